import JvmDerived
import JvmDerived.Pilot.@@N@@Statement
import JvmDerived.Pilot.@@N@@Code
set_option linter.unusedVariables false
set_option linter.unusedSimpArgs false
/- laws to paste: Road.backV, Road.eqW (cut by pick.py; bodies as the Statement names them) -/
namespace Jvm.Pilot.@@N@@
namespace StrChars
open Jvm Sem ClassFile Op Lib Jvm.Stand Jvm.Free.XT Jvm.Free.ALB Jvm.Free.JM Jvm.Free
open Jvm.Lib.Cold (StaticIs)
/-- a char array whose places are chars -/
def Ch (a : Addr) (A : Cell) (U : State) : Prop := Arr .char a A U ∧ Typed .char A
theorem Ch.mv {a : Addr} {A : Cell} {U U' : State} (h : Ch a A U) (hal : U.vm.Alike U'.vm) (hh : U'.heap = U.heap) : Ch a A U' := ⟨h.1.mv hal hh, h.2⟩
theorem Ch.keep {a : Addr} {A : Cell} {U U' : State} (h : Ch a A U) (hal : U.vm.Alike U'.vm) (hk : U'.heap[a]? = some A) : Ch a A U' := ⟨h.1.keep hal hk, h.2⟩
/-- what place i of a char[]'s cell holds -/
def cv (A : Cell) (i : Nat) : Int32 := match A.slots[i]? with | some (.int x) => x | _ => 0
theorem Ch.get {a : Addr} {A : Cell} {U : State} (h : Ch a A U) {i : Nat} (hi : i < A.slots.size) : A.slots[i]? = some (.int (cv A i)) := by
  have e := Array.getElem?_eq_getElem hi
  have f := h.2 i _ e
  unfold cv; rw [e]
  generalize A.slots[i] = v at f
  cases v <;> simp [fits] at f ⊢
/-- the byte that i2b leaves of a char -/
def lo8 (x : Int32) : Int32 := x.toInt8.toInt32
theorem fits_lo8 (y : Int32) : fits .byte (.int (lo8 y)) = true := by
  have h1 := y.toInt8.le_toInt
  have h2 := y.toInt8.toInt_lt
  simp only [lo8, fits, Bool.and_eq_true, decide_eq_true_eq, Int32.le_iff_toInt_le, Int8.toInt_toInt32, show (-128 : Int32).toInt = -128 from by decide, show (127 : Int32).toInt = 127 from by decide]
  omega
/-- A' is A but that each place j of lo .. hi - 1 holds f j -/
def Laid (A A' : Cell) (lo hi : Nat) (f : Nat → Value) : Prop := A'.cls = A.cls ∧ A'.vm = A.vm ∧ A'.slots.size = A.slots.size ∧ ∀ i, A'.slots[i]? = if lo ≤ i ∧ i < hi then some (f i) else A.slots[i]?
theorem Laid.zero (A : Cell) (lo : Nat) (f : Nat → Value) : Laid A A lo (lo + 0) f := ⟨rfl, rfl, rfl, fun i => by rw [if_neg (by omega)]⟩
theorem Laid.step {A Ak : Cell} {lo k : Nat} {f : Nat → Value} {v : Value} (h : Laid A Ak lo k f) (hlo : lo ≤ k) (hk : k < Ak.slots.size) (hv : v = f k) : Laid A (Ak.setSlot k v) lo (k + 1) f := by
  refine ⟨h.1, h.2.1, by simpa [Cell.setSlot] using h.2.2.1, fun i => ?_⟩
  by_cases e : k = i
  · subst e; rw [Cell.slots_setSlot_self v hk, if_pos (by omega), hv]
  · rw [Cell.slots_setSlot_ne v e, h.2.2.2 i]
    by_cases q : lo ≤ i ∧ i < k
    · rw [if_pos q, if_pos (by omega)]
    · rw [if_neg q, if_neg (by omega)]
def U16 : String := "java/lang/StringUTF16"
namespace Cmp5
def yN : MethodName := ⟨"java/lang/StringUTF16", "compress", "([CI[BII)I"⟩
abbrev yB : ByteArray := jdk_52_method_21_code
theorem d0 : decode yB 0 = .ok (.iconst 0, 1) := by decide +kernel
theorem d1 : decode yB 1 = .ok (.istore 5, 2) := by decide +kernel
theorem d3 : decode yB 3 = .ok (.iload 5, 2) := by decide +kernel
theorem d5 : decode yB 5 = .ok (.iload 4, 2) := by decide +kernel
theorem d7 : decode yB 7 = .ok (.if_icmp (.ge) 37, 3) := by decide +kernel
theorem d10 : decode yB 10 = .ok (.aload_n 0, 1) := by decide +kernel
theorem d11 : decode yB 11 = .ok (.iload_n 1, 1) := by decide +kernel
theorem d12 : decode yB 12 = .ok (.caload, 1) := by decide +kernel
theorem d13 : decode yB 13 = .ok (.istore 6, 2) := by decide +kernel
theorem d15 : decode yB 15 = .ok (.iload 6, 2) := by decide +kernel
theorem d17 : decode yB 17 = .ok (.sipush 255, 3) := by decide +kernel
theorem d20 : decode yB 20 = .ok (.if_icmp (.le) 6, 3) := by decide +kernel
theorem d26 : decode yB 26 = .ok (.aload_n 2, 1) := by decide +kernel
theorem d27 : decode yB 27 = .ok (.iload_n 3, 1) := by decide +kernel
theorem d28 : decode yB 28 = .ok (.iload 6, 2) := by decide +kernel
theorem d30 : decode yB 30 = .ok (.i2b, 1) := by decide +kernel
theorem d31 : decode yB 31 = .ok (.bastore, 1) := by decide +kernel
theorem d32 : decode yB 32 = .ok (.iinc 1 1, 3) := by decide +kernel
theorem d35 : decode yB 35 = .ok (.iinc 3 1, 3) := by decide +kernel
theorem d38 : decode yB 38 = .ok (.iinc 5 1, 3) := by decide +kernel
theorem d41 : decode yB 41 = .ok (.goto (-38), 3) := by decide +kernel
theorem d44 : decode yB 44 = .ok (.iload 4, 2) := by decide +kernel
theorem d46 : decode yB 46 = .ok (.ireturn, 1) := by decide +kernel
def site : List Cond := []
def tab : Cond := tabOf yN yB 7 (some .int) site
def P (b : Addr) (A : Cell) (d : Addr) (B : Cell) (o q len : Nat) (args : Array Value) (s : State) : Prop := args = #[.ref b, .int (Int32.ofNat o), .ref d, .int (Int32.ofNat q), .int (Int32.ofNat len)] ∧ Ch b A s ∧ Arr .byte d B s ∧ b ≠ d ∧ o + len ≤ A.slots.size ∧ q + len ≤ B.slots.size ∧ ∀ i, i < len → ¬ 255 < cv A (o + i)
def E (b : Addr) (A : Cell) (d : Addr) (B : Cell) (o q len : Nat) (r : Option Value) (s u : State) : Prop := r = some (.int (Int32.ofNat len)) ∧ ∃ B', Put d B' s u ∧ Laid B B' q (q + len) (fun j => Value.int (lo8 (cv A (o + (j - q)))))
/-- no char of the range above 255: len; the places written hold each char's low byte -/
theorem law (l : Launch) (b : Addr) (A : Cell) (d : Addr) (B : Cell) (o q len : Nat) : Law l yN 5 5 0 0 yB 7 (some .int) site (P b A d B o q len) (E b A d B o q len) (copyLocs d q len) 0 0 := by
  refine Law.of_walk (plainFor_of_name (by decide +kernel)) (by decide +kernel) (by decide +kernel) (by decide) (fun _ _ h => by rw [h.1]; rfl) (fun _ U U' hal hh h => ⟨h.1, h.2.1.mv hal hh, h.2.2.1.mv hal hh, h.2.2.2⟩) (fun r U U' V V' h1 hal h2 h => ⟨h.1, h.2.elim fun B' q => ⟨B', q.1.mv h1 h2, q.2⟩⟩) ?_
  intro p e s m args below meth c s₁ X0 hexec hbytes hml hret hlk hnm hown hh0 W hP
  obtain ⟨rfl, hA, hB, hne, l1, l2, hp⟩ := hP
  have c1 : Steps p.tables e below (s₁.setTop (entryFrame m #[.ref b, .int (Int32.ofNat o), .ref d, .int (Int32.ofNat q), .int (Int32.ofNat len)] 7)) (s₁.setTop (mkF m 0 #[.val (.ref b), .val (.int (Int32.ofNat o)), .val (.ref d), .val (.int (Int32.ofNat q)), .val (.int (Int32.ofNat len)), .unset, .unset] [])) := entry rfl
  have hA0 := hA.1.mv X0.warmed.alike hh0
  have hB0 := hB.mv X0.warmed.alike hh0
  have a31 := hA.1.2.2.2
  have c2 : Steps p.tables e below (s₁.setTop (entryFrame m #[.ref b, .int (Int32.ofNat o), .ref d, .int (Int32.ofNat q), .int (Int32.ofNat len)] 7)) (s₁.setTop (mkF m 3 #[.val (.ref b), .val (.int (Int32.ofNat o)), .val (.ref d), .val (.int (Int32.ofNat q)), .val (.int (Int32.ofNat len)), .val (.int 0), .unset] [])) := c1.trans (by
    refine iconstV X0.here hexec rfl 0 (hb hbytes d0) (by decide) ?_
    refine XS.istore X0.here hexec rfl (hb hbytes d1) rfl rfl ?_
    exact Steps.refl _)
  have loop : ∀ (r i : Nat), i + r = len → ∀ (z : Slot), (z = .unset ∨ ∃ w, z = .val w ∧ w.category = 1) → ∀ (Tl : State) (Bk : Cell), Stand p l e { frames := 0, locals := 0, cells := 0, slots := 0 } s m #[.ref b, .int (Int32.ofNat o), .ref d, .int (Int32.ofNat q), .int (Int32.ofNat len)] below meth c Tl ([] ++ copyLocs d q i) 0 0 → Put d Bk s₁ Tl → Laid B Bk q (q + i) (fun j => Value.int (lo8 (cv A (o + (j - q))))) →
      Steps p.tables e below (s₁.setTop (entryFrame m #[.ref b, .int (Int32.ofNat o), .ref d, .int (Int32.ofNat q), .int (Int32.ofNat len)] 7)) (Tl.setTop (mkF m 3 #[.val (.ref b), .val (.int (Int32.ofNat (o + i))), .val (.ref d), .val (.int (Int32.ofNat (q + i))), .val (.int (Int32.ofNat len)), .val (.int (Int32.ofNat i)), z] [])) → ∃ (T' : State) (B' : Cell) (z' : Slot), Stand p l e { frames := 0, locals := 0, cells := 0, slots := 0 } s m #[.ref b, .int (Int32.ofNat o), .ref d, .int (Int32.ofNat q), .int (Int32.ofNat len)] below meth c T' ([] ++ copyLocs d q len) 0 0 ∧ Put d B' s₁ T' ∧ Laid B B' q (q + len) (fun j => Value.int (lo8 (cv A (o + (j - q))))) ∧
      Steps p.tables e below (s₁.setTop (entryFrame m #[.ref b, .int (Int32.ofNat o), .ref d, .int (Int32.ofNat q), .int (Int32.ofNat len)] 7)) (T'.setTop (mkF m 3 #[.val (.ref b), .val (.int (Int32.ofNat (o + len))), .val (.ref d), .val (.int (Int32.ofNat (q + len))), .val (.int (Int32.ofNat len)), .val (.int (Int32.ofNat len)), z'] [])) := by
    intro r
    induction r with
    | zero =>
      intro i hi z hz Tl Bk Xl pl fl cl
      have hil : i = len := by omega
      rw [hil] at Xl fl cl
      exact ⟨Tl, Bk, z, Xl, pl, fl, cl⟩
    | succ r ih =>
      intro i hi z hz Tl Bk Xl pl fl cl
      have all := X0.warmed.alike.symm.trans Xl.warmed.alike
      have hAl := hA0.keep all (pl.other hne hA0.1)
      have hBk := hB0.like all pl.1 fl.1 fl.2.1 fl.2.2.1
      have hlt : q + i < Bk.slots.size := by rw [fl.2.2.1]; omega
      have c3 : Steps p.tables e below (s₁.setTop (entryFrame m #[.ref b, .int (Int32.ofNat o), .ref d, .int (Int32.ofNat q), .int (Int32.ofNat len)] 7)) (Tl.setTop (mkF m 12 #[.val (.ref b), .val (.int (Int32.ofNat (o + i))), .val (.ref d), .val (.int (Int32.ofNat (q + i))), .val (.int (Int32.ofNat len)), .val (.int (Int32.ofNat i)), z] [.int (Int32.ofNat (o + i)), .ref b])) := cl.trans (by
        refine XS.iload Xl.here hexec rfl (hb hbytes d3) rfl ?_
        refine XS.iload Xl.here hexec rfl (hb hbytes d5) rfl ?_
        refine XS.icmpNo Xl.here hexec rfl (hb hbytes d7) rfl (ii_ge_f (lt32 (by omega) (by omega))) ?_
        refine XS.aloadN Xl.here hexec rfl (hb hbytes d10) rfl rfl ?_
        refine XS.iloadN Xl.here hexec rfl (hb hbytes d11) rfl ?_
        exact Steps.refl _)
      have c4 : Steps p.tables e below (s₁.setTop (entryFrame m #[.ref b, .int (Int32.ofNat o), .ref d, .int (Int32.ofNat q), .int (Int32.ofNat len)] 7)) (Tl.setTop (mkF m 13 #[.val (.ref b), .val (.int (Int32.ofNat (o + i))), .val (.ref d), .val (.int (Int32.ofNat (q + i))), .val (.int (Int32.ofNat len)), .val (.int (Int32.ofNat i)), z] [.int (cv A (o + i))])) := c3.trans (by
        refine Xl.aget hexec hAl rfl (hA.get (i := o + i) (by omega)) rfl rfl (hb hbytes d12) ?_
        exact Steps.refl _)
      have c5 : Steps p.tables e below (s₁.setTop (entryFrame m #[.ref b, .int (Int32.ofNat o), .ref d, .int (Int32.ofNat q), .int (Int32.ofNat len)] 7)) (Tl.setTop (mkF m 15 #[.val (.ref b), .val (.int (Int32.ofNat (o + i))), .val (.ref d), .val (.int (Int32.ofNat (q + i))), .val (.int (Int32.ofNat len)), .val (.int (Int32.ofNat i)), .val (.int (cv A (o + i)))] [])) := c4.trans (by
        refine XS.istoreS Xl.here hexec rfl (hb hbytes d13) rfl rfl hz ?_
        exact Steps.refl _)
      have c6 : Steps p.tables e below (s₁.setTop (entryFrame m #[.ref b, .int (Int32.ofNat o), .ref d, .int (Int32.ofNat q), .int (Int32.ofNat len)] 7)) (Tl.setTop (mkF m 31 #[.val (.ref b), .val (.int (Int32.ofNat (o + i))), .val (.ref d), .val (.int (Int32.ofNat (q + i))), .val (.int (Int32.ofNat len)), .val (.int (Int32.ofNat i)), .val (.int (cv A (o + i)))] [.int (lo8 (cv A (o + i))), .int (Int32.ofNat (q + i)), .ref d])) := c5.trans (by
        refine XS.iload Xl.here hexec rfl (hb hbytes d15) rfl ?_
        refine sipushV Xl.here hexec rfl 255 (hb hbytes d17) (by decide) ?_
        refine XS.icmpYes Xl.here hexec rfl (pc0 := 20) rfl (hb hbytes d20) rfl (ii_le_t (hp i (by omega))) (by decide) rfl ?_
        refine XS.aloadN Xl.here hexec rfl (hb hbytes d26) rfl rfl ?_
        refine XS.iloadN Xl.here hexec rfl (hb hbytes d27) rfl ?_
        refine XS.iload Xl.here hexec rfl (hb hbytes d28) rfl ?_
        refine i2b Xl.here hexec rfl (hb hbytes d30) rfl ?_
        exact Steps.refl _)
      obtain ⟨T7, X7, p7, st7⟩ := Xl.aput hexec hBk rfl hlt rfl (fits_lo8 (cv A (o + i))) (g := (mkF m 31 #[.val (.ref b), .val (.int (Int32.ofNat (o + i))), .val (.ref d), .val (.int (Int32.ofNat (q + i))), .val (.int (Int32.ofNat len)), .val (.int (Int32.ofNat i)), .val (.int (cv A (o + i)))] [.int (lo8 (cv A (o + i))), .int (Int32.ofNat (q + i)), .ref d])) rfl (rest := []) rfl (hb hbytes d31)
      have c8 : Steps p.tables e below (s₁.setTop (entryFrame m #[.ref b, .int (Int32.ofNat o), .ref d, .int (Int32.ofNat q), .int (Int32.ofNat len)] 7)) (T7.setTop (mkF m 32 #[.val (.ref b), .val (.int (Int32.ofNat (o + i))), .val (.ref d), .val (.int (Int32.ofNat (q + i))), .val (.int (Int32.ofNat len)), .val (.int (Int32.ofNat i)), .val (.int (cv A (o + i)))] [])) := c6.trans (st7 _ (Steps.refl _))
      have c9 : Steps p.tables e below (s₁.setTop (entryFrame m #[.ref b, .int (Int32.ofNat o), .ref d, .int (Int32.ofNat q), .int (Int32.ofNat len)] 7)) (T7.setTop (mkF m 3 #[.val (.ref b), .val (.int (Int32.ofNat (o + i) + 1)), .val (.ref d), .val (.int (Int32.ofNat (q + i) + 1)), .val (.int (Int32.ofNat len)), .val (.int (Int32.ofNat i + 1)), .val (.int (cv A (o + i)))] [])) := c8.trans (by
        refine iincV X7.here hexec rfl 1 (hb hbytes d32) (by decide) rfl rfl ?_
        refine iincV X7.here hexec rfl 1 (hb hbytes d35) (by decide) rfl rfl ?_
        refine iincV X7.here hexec rfl 1 (hb hbytes d38) (by decide) rfl rfl ?_
        refine XS.goto X7.here hexec rfl (pc0 := 41) rfl (hb hbytes d41) (by decide) rfl ?_
        exact Steps.refl _)
      have c10 : Steps p.tables e below (s₁.setTop (entryFrame m #[.ref b, .int (Int32.ofNat o), .ref d, .int (Int32.ofNat q), .int (Int32.ofNat len)] 7)) (T7.setTop (mkF m 3 #[.val (.ref b), .val (.int (Int32.ofNat (o + (i + 1)))), .val (.ref d), .val (.int (Int32.ofNat (q + (i + 1)))), .val (.int (Int32.ofNat len)), .val (.int (Int32.ofNat (i + 1))), .val (.int (cv A (o + i)))] [])) := by
        have := c9
        rw [succ32, succ32, succ32] at this
        exact this
      exact ih (i + 1) (by omega) _ (Or.inr ⟨_, rfl, rfl⟩) T7 _ (by rw [copyLocs_step, ← List.append_assoc]; exact X7) (pl.trans p7) (fl.step (by omega) hlt (by simp)) c10
  obtain ⟨T9, B9, z9, X9, p9, f9, g9⟩ := loop len 0 (by omega) .unset (Or.inl rfl) s₁ B (by simpa [copyLocs] using X0) ⟨hB0.1, fun _ _ => rfl, rfl⟩ (Laid.zero _ _ _) c2
  have c11 : Steps p.tables e below (s₁.setTop (entryFrame m #[.ref b, .int (Int32.ofNat o), .ref d, .int (Int32.ofNat q), .int (Int32.ofNat len)] 7)) (T9.setTop (mkF m 46 #[.val (.ref b), .val (.int (Int32.ofNat (o + len))), .val (.ref d), .val (.int (Int32.ofNat (q + len))), .val (.int (Int32.ofNat len)), .val (.int (Int32.ofNat len)), z9] [.int (Int32.ofNat len)])) := g9.trans (by
    refine XS.iload X9.here hexec rfl (hb hbytes d3) rfl ?_
    refine XS.iload X9.here hexec rfl (hb hbytes d5) rfl ?_
    refine XS.icmpYes X9.here hexec rfl (pc0 := 7) rfl (hb hbytes d7) rfl (ii_ge_t (nlt32 (by omega) (Nat.le_refl _))) (by decide) rfl ?_
    refine XS.iload X9.here hexec rfl (hb hbytes d44) rfl ?_
    exact Steps.refl _)
  exact ⟨T9, some (.int (Int32.ofNat len)), _, _, _, X9, by simp, rfl, rfl, (fun h => by cases h), ⟨rfl, B9, p9.from hh0, f9⟩, fun fs hl => c11.trans (X9.ireturnOut hexec hret rfl (Or.inl rfl) (hb hbytes d46) hl)⟩
end Cmp5
namespace Cmp3
def yN : MethodName := ⟨"java/lang/StringUTF16", "compress", "([CII)[B"⟩
abbrev yB : ByteArray := jdk_52_method_16_code
theorem d0 : decode yB 0 = .ok (.iload_n 2, 1) := by decide +kernel
theorem d1 : decode yB 1 = .ok (.newarray .byte, 2) := by decide +kernel
theorem d3 : decode yB 3 = .ok (.astore_n 3, 1) := by decide +kernel
theorem d4 : decode yB 4 = .ok (.aload_n 0, 1) := by decide +kernel
theorem d5 : decode yB 5 = .ok (.iload_n 1, 1) := by decide +kernel
theorem d6 : decode yB 6 = .ok (.aload_n 3, 1) := by decide +kernel
theorem d7 : decode yB 7 = .ok (.iconst 0, 1) := by decide +kernel
theorem d8 : decode yB 8 = .ok (.iload_n 2, 1) := by decide +kernel
theorem d9 : decode yB 9 = .ok (.invokestatic 115, 3) := by decide +kernel
theorem d12 : decode yB 12 = .ok (.istore 4, 2) := by decide +kernel
theorem d14 : decode yB 14 = .ok (.iload 4, 2) := by decide +kernel
theorem d16 : decode yB 16 = .ok (.iload_n 2, 1) := by decide +kernel
theorem d17 : decode yB 17 = .ok (.if_icmp (.eq) 40, 3) := by decide +kernel
theorem d57 : decode yB 57 = .ok (.aload_n 3, 1) := by decide +kernel
theorem d58 : decode yB 58 = .ok (.areturn, 1) := by decide +kernel
def site : List Cond := [.arrayClass .byte, Cmp5.tab] ++ staticW U16 115 Cmp5.yN
def tab : Cond := tabOf yN yB 6 (some (.array .byte)) site
def P (b : Addr) (A : Cell) (o len : Nat) (args : Array Value) (s : State) : Prop := args = #[.ref b, .int (Int32.ofNat o), .int (Int32.ofNat len)] ∧ Ch b A s ∧ o + len ≤ A.slots.size ∧ len ≤ 536870912 ∧ ∀ i, i < len → ¬ 255 < cv A (o + i)
def E (b : Addr) (A : Cell) (o len : Nat) (r : Option Value) (s u : State) : Prop := NewArr .byte "[B" len (fun j => .int (lo8 (cv A (o + j)))) r s u ∧ u.heap.size = s.heap.size + 1
/-- no char of the range above 255: a new byte[] of their low bytes -/
theorem law (l : Launch) (b : Addr) (A : Cell) (o len : Nat) : Law l yN 3 3 1 18 yB 6 (some (.array .byte)) site (P b A o len) (E b A o len) [] 1 len := by
  refine Law.of_walk (plainFor_of_name (by decide +kernel)) (by decide +kernel) (by decide +kernel) (by decide) (fun _ _ h => by rw [h.1]; rfl) (fun _ U U' hal hh h => ⟨h.1, h.2.1.mv hal hh, h.2.2⟩) (fun r U U' V V' h1 hal h2 h => ⟨NewArr.mv r U U' V V' h1 hal h2 h.1, by rw [h1, h2]; exact h.2⟩) ?_
  intro p e s m args below meth c s₁ X0 hexec hbytes hml hret hlk hnm hown hh0 W hP
  obtain ⟨rfl, hA, l1, l2, hp⟩ := hP
  have a31 := hA.1.2.2.2
  have c1 : Steps p.tables e below (s₁.setTop (entryFrame m #[.ref b, .int (Int32.ofNat o), .int (Int32.ofNat len)] 6)) (s₁.setTop (mkF m 0 #[.val (.ref b), .val (.int (Int32.ofNat o)), .val (.int (Int32.ofNat len)), .unset, .unset, .unset] [])) := entry rfl
  have c2 : Steps p.tables e below (s₁.setTop (entryFrame m #[.ref b, .int (Int32.ofNat o), .int (Int32.ofNat len)] 6)) (s₁.setTop (mkF m 1 #[.val (.ref b), .val (.int (Int32.ofNat o)), .val (.int (Int32.ofNat len)), .unset, .unset, .unset] [.int (Int32.ofNat len)])) := c1.trans (by
    refine XS.iloadN X0.here hexec rfl (hb hbytes d0) rfl ?_
    exact Steps.refl _)
  obtain ⟨T3, B3, X3, ba3, bs3, bv3, bh3, bf3, st3⟩ := X0.anew hexec (atype := .byte) (wk W (.arrayClass .byte)) rfl (by show len * 1 ≤ _; omega) (by omega) (g := (mkF m 1 #[.val (.ref b), .val (.int (Int32.ofNat o)), .val (.int (Int32.ofNat len)), .unset, .unset, .unset] [.int (Int32.ofNat len)])) rfl (hb hbytes d1) (rest := []) rfl (Nat.le_refl _) (by show 0 + len ≤ len; omega)
  rw [hh0] at ba3 st3
  have kp3 : XT.Kept s T3 := (XT.Kept.of_eq hh0).push bh3
  have hA3 := hA.keep X3.warmed.alike (kp3 _ _ hA.1.1)
  have hne : b ≠ s.heap.size := hA.1.ne
  have c4 : Steps p.tables e below (s₁.setTop (entryFrame m #[.ref b, .int (Int32.ofNat o), .int (Int32.ofNat len)] 6)) (T3.setTop (mkF m 3 #[.val (.ref b), .val (.int (Int32.ofNat o)), .val (.int (Int32.ofNat len)), .unset, .unset, .unset] [.ref s.heap.size])) := c2.trans (st3 _ (Steps.refl _))
  have c5 : Steps p.tables e below (s₁.setTop (entryFrame m #[.ref b, .int (Int32.ofNat o), .int (Int32.ofNat len)] 6)) (T3.setTop (mkF m 9 #[.val (.ref b), .val (.int (Int32.ofNat o)), .val (.int (Int32.ofNat len)), .val (.ref s.heap.size), .unset, .unset] [.int (Int32.ofNat len), .int 0, .ref s.heap.size, .int (Int32.ofNat o), .ref b])) := c4.trans (by
    refine XS.astoreN X3.here hexec rfl (hb hbytes d3) rfl rfl rfl ?_
    refine XS.aloadN X3.here hexec rfl (hb hbytes d4) rfl rfl ?_
    refine XS.iloadN X3.here hexec rfl (hb hbytes d5) rfl ?_
    refine XS.aloadN X3.here hexec rfl (hb hbytes d6) rfl rfl ?_
    refine iconstV X3.here hexec rfl 0 (hb hbytes d7) (by decide) ?_
    refine XS.iloadN X3.here hexec rfl (hb hbytes d8) rfl ?_
    exact Steps.refl _)
  obtain ⟨v6, T6, X6, E6, g6⟩ := X3.callS hexec (Cmp5.law l b A s.heap.size B3 o 0 len) hown (wks W (staticW U16 115 Cmp5.yN)) (wk W Cmp5.tab) (W := 0) (Nat.le_of_ble_eq_true rfl) (Nat.le_of_ble_eq_true rfl) (Nat.le_refl _) (by show 0 + len + 0 ≤ len; omega) (g := (mkF m 9 #[.val (.ref b), .val (.int (Int32.ofNat o)), .val (.int (Int32.ofNat len)), .val (.ref s.heap.size), .unset, .unset] [.int (Int32.ofNat len), .int (Int32.ofNat 0), .ref s.heap.size, .int (Int32.ofNat o), .ref b])) rfl (by rw [hml]; rfl) c5 (argsL := [.ref b, .int (Int32.ofNat o), .ref s.heap.size, .int (Int32.ofNat 0), .int (Int32.ofNat len)]) (rest := []) rfl rfl (by show 2 * 0 + 0 ≤ _; decide) (hb hbytes d9) (⟨rfl, hA3, ba3, hne, l1, by rw [bs3]; simp, hp⟩)
  obtain ⟨rfl, B6, p6, f6⟩ := E6
  have c7 : Steps p.tables e below (s₁.setTop (entryFrame m #[.ref b, .int (Int32.ofNat o), .int (Int32.ofNat len)] 6)) (T6.setTop (mkF m 12 #[.val (.ref b), .val (.int (Int32.ofNat o)), .val (.int (Int32.ofNat len)), .val (.ref s.heap.size), .unset, .unset] [.int (Int32.ofNat len)])) := g6
  have c8 : Steps p.tables e below (s₁.setTop (entryFrame m #[.ref b, .int (Int32.ofNat o), .int (Int32.ofNat len)] 6)) (T6.setTop (mkF m 58 #[.val (.ref b), .val (.int (Int32.ofNat o)), .val (.int (Int32.ofNat len)), .val (.ref s.heap.size), .val (.int (Int32.ofNat len)), .unset] [.ref s.heap.size])) := c7.trans (by
    refine XS.istore X6.here hexec rfl (hb hbytes d12) rfl rfl ?_
    refine XS.iload X6.here hexec rfl (hb hbytes d14) rfl ?_
    refine XS.iloadN X6.here hexec rfl (hb hbytes d16) rfl ?_
    refine XS.icmpYes X6.here hexec rfl (pc0 := 17) rfl (hb hbytes d17) rfl (ii_eq_t rfl) (by decide) rfl ?_
    refine XS.aloadN X6.here hexec rfl (hb hbytes d57) rfl rfl ?_
    exact Steps.refl _)
  have X8 := X6.wide (L' := []) (cells' := 1) (slots' := len) (fun x hx hlt => by
    simp only [List.nil_append, copyLocs, List.mem_map, List.mem_range] at hx
    obtain ⟨i, -, rfl⟩ := hx
    exact absurd hlt (Nat.lt_irrefl _)) (Nat.le_refl _) (by omega)
  exact ⟨T6, some (.ref s.heap.size), _, _, _, X8, rfl, rfl, rfl, (fun h => by cases h), ⟨⟨rfl, B6, ba3.like (X3.warmed.alike.symm.trans X6.warmed.alike) p6.1 f6.1 f6.2.1 f6.2.2.1, f6.2.1.trans bv3, by rw [X6.warmed.alike.findClass, f6.1]; exact bf3, by rw [f6.2.2.1, bs3]; simp, fun j hj => by rw [f6.2.2.2 j, if_pos (by omega)]; rfl, kp3.put p6 (Nat.le_refl _)⟩, by rw [p6.2.2, bh3, hh0]; simp⟩, fun fs hl => c8.trans (X8.areturnOut hexec rfl hret rfl (hb hbytes d58) hl)⟩
end Cmp3
namespace CodL
def yN : MethodName := ⟨"java/lang/StringUTF16", "coderFromArrayLen", "([BI)B"⟩
abbrev yB : ByteArray := jdk_52_method_15_code
theorem d0 : decode yB 0 = .ok (.iload_n 1, 1) := by decide +kernel
theorem d1 : decode yB 1 = .ok (.aload_n 0, 1) := by decide +kernel
theorem d2 : decode yB 2 = .ok (.arraylength, 1) := by decide +kernel
theorem d3 : decode yB 3 = .ok (.isub, 1) := by decide +kernel
theorem d4 : decode yB 4 = .ok (.bipush 31, 2) := by decide +kernel
theorem d6 : decode yB 6 = .ok (.iushr, 1) := by decide +kernel
theorem d7 : decode yB 7 = .ok (.i2b, 1) := by decide +kernel
theorem d8 : decode yB 8 = .ok (.ireturn, 1) := by decide +kernel
def site : List Cond := []
def tab : Cond := tabOf yN yB 2 (some .byte) site
def P (d : Addr) (B : Cell) (args : Array Value) (s : State) : Prop := args = #[.ref d, .int (Int32.ofNat B.slots.size)] ∧ Arr .byte d B s
def E (r : Option Value) (s u : State) : Prop := XT.PureE (some (.int 0)) r s u
/-- an array as long as the number of chars: LATIN1 -/
theorem law (l : Launch) (d : Addr) (B : Cell) : Law l yN 2 2 0 0 yB 2 (some .byte) site (P d B) E [] 0 0 := by
  refine Law.of_walk (plainFor_of_name (by decide +kernel)) (by decide +kernel) (by decide +kernel) (by decide) (fun _ _ h => by rw [h.1]; rfl) (fun _ U U' hal hh h => ⟨h.1, h.2.mv hal hh⟩) (fun r U U' V V' h1 hal h2 h => XT.PureE.mv r U U' V V' h1 hal h2 h) ?_
  intro p e s m args below meth c s₁ X0 hexec hbytes hml hret hlk hnm hown hh0 W hP
  obtain ⟨rfl, hB⟩ := hP
  have hB0 := hB.mv X0.warmed.alike hh0
  have c1 : Steps p.tables e below (s₁.setTop (entryFrame m #[.ref d, .int (Int32.ofNat B.slots.size)] 2)) (s₁.setTop (mkF m 0 #[.val (.ref d), .val (.int (Int32.ofNat B.slots.size))] [])) := entry rfl
  have c2 : Steps p.tables e below (s₁.setTop (entryFrame m #[.ref d, .int (Int32.ofNat B.slots.size)] 2)) (s₁.setTop (mkF m 2 #[.val (.ref d), .val (.int (Int32.ofNat B.slots.size))] [.ref d, .int (Int32.ofNat B.slots.size)])) := c1.trans (by
    refine XS.iloadN X0.here hexec rfl (hb hbytes d0) rfl ?_
    refine XS.aloadN X0.here hexec rfl (hb hbytes d1) rfl rfl ?_
    exact Steps.refl _)
  have c3 : Steps p.tables e below (s₁.setTop (entryFrame m #[.ref d, .int (Int32.ofNat B.slots.size)] 2)) (s₁.setTop (mkF m 8 #[.val (.ref d), .val (.int (Int32.ofNat B.slots.size))] [.int (lo8 (ushr (Int32.ofNat B.slots.size - Int32.ofNat B.slots.size) 31))])) := c2.trans (by
    refine X0.alen hexec hB0 rfl rfl (hb hbytes d2) ?_
    refine XS.isub X0.here hexec rfl (hb hbytes d3) rfl ?_
    refine bipushV X0.here hexec rfl 31 (hb hbytes d4) (by decide) ?_
    refine iushr X0.here hexec rfl (hb hbytes d6) rfl ?_
    refine i2b X0.here hexec rfl (hb hbytes d7) rfl ?_
    exact Steps.refl _)
  have e0 : lo8 (ushr (Int32.ofNat B.slots.size - Int32.ofNat B.slots.size) 31) = 0 := by rw [Int32.sub_self]; decide
  rw [e0] at c3
  exact ⟨s₁, some (.int 0), _, _, _, X0, rfl, rfl, rfl, (fun h => by cases h), ⟨rfl, hh0⟩, fun fs hl => c3.trans (X0.ireturnOut hexec hret rfl (Or.inr (Or.inr (Or.inl rfl))) (hb hbytes d8) hl)⟩
end CodL
/-- the String at a is Latin-1 over a new byte[] (the heap's one new cell): the low bytes of the len chars of A from o on; every cell but a is kept -/
def Got (a : Addr) (D : Cell) (fV fC : Field) (A : Cell) (o len : Nat) (r : Option Value) (s u : State) : Prop := r = none ∧ ∃ D' V : Cell, Blank "java/lang/String" a D' u ∧ Same D D' [fV.slot, fC.slot] ∧ D'.slots[fV.slot]? = some (.ref s.heap.size) ∧ D'.slots[fC.slot]? = some (.int 0) ∧ Arr .byte s.heap.size V u ∧ V.vm = .none ∧ u.vm.findClass "[B" = some V.cls ∧ V.slots.size = len ∧ (∀ j, j < len → V.slots[j]? = some (.int (lo8 (cv A (o + j))))) ∧ (∀ (y : Addr) (c : Cell), y ≠ a → s.heap[y]? = some c → u.heap[y]? = some c) ∧ u.heap.size = s.heap.size + 1
theorem Got.mv {a : Addr} {D A : Cell} {fV fC : Field} {o len : Nat} : ∀ r (U U' V V' : State), U'.heap = U.heap → V.vm.Alike V'.vm → V'.heap = V.heap → Got a D fV fC A o len r U V → Got a D fV fC A o len r U' V' :=
  fun r U U' V V' h1 hal h2 ⟨e0, D', X, a1, a2, a3, a4, a5, a6, a7, a8, a9, a10, a11⟩ => ⟨e0, D', X, a1.mv hal h2, a2, by rw [h1]; exact a3, a4, by rw [h1]; exact a5.mv hal h2, a6, by rw [hal.findClass]; exact a7, a8, a9, by rw [h1, h2]; exact a10, by rw [h1, h2]; exact a11⟩
namespace New4
def yN : MethodName := ⟨"java/lang/String", "<init>", "([CIILjava/lang/Void;)V"⟩
abbrev yB : ByteArray := jdk_42_method_149_code
theorem d0 : decode yB 0 = .ok (.aload_n 0, 1) := by decide +kernel
theorem d1 : decode yB 1 = .ok (.invokespecial 1, 3) := by decide +kernel
theorem d4 : decode yB 4 = .ok (.iload_n 3, 1) := by decide +kernel
theorem d5 : decode yB 5 = .ok (.ifCond (.ne) 22, 3) := by decide +kernel
theorem d27 : decode yB 27 = .ok (.getstatic 38, 3) := by decide +kernel
theorem d30 : decode yB 30 = .ok (.ifCond (.eq) 28, 3) := by decide +kernel
theorem d33 : decode yB 33 = .ok (.aload_n 1, 1) := by decide +kernel
theorem d34 : decode yB 34 = .ok (.iload_n 2, 1) := by decide +kernel
theorem d35 : decode yB 35 = .ok (.iload_n 3, 1) := by decide +kernel
theorem d36 : decode yB 36 = .ok (.invokestatic 177, 3) := by decide +kernel
theorem d39 : decode yB 39 = .ok (.astore 5, 2) := by decide +kernel
theorem d41 : decode yB 41 = .ok (.aload_n 0, 1) := by decide +kernel
theorem d42 : decode yB 42 = .ok (.aload 5, 2) := by decide +kernel
theorem d44 : decode yB 44 = .ok (.iload_n 3, 1) := by decide +kernel
theorem d45 : decode yB 45 = .ok (.invokestatic 47, 3) := by decide +kernel
theorem d48 : decode yB 48 = .ok (.putfield 15, 3) := by decide +kernel
theorem d51 : decode yB 51 = .ok (.aload_n 0, 1) := by decide +kernel
theorem d52 : decode yB 52 = .ok (.aload 5, 2) := by decide +kernel
theorem d54 : decode yB 54 = .ok (.putfield 9, 3) := by decide +kernel
theorem d57 : decode yB 57 = .ok (.return_, 1) := by decide +kernel
def site : List Cond := [.fieldLink "java/lang/String" 38 "java/lang/String" "COMPACT_STRINGS" "Z", Cmp3.tab, CodL.tab, .laysFinal "java/lang/String" "java/lang/String" "value" "[B", .fieldLink "java/lang/String" 9 "java/lang/String" "value" "[B", .laysFinal "java/lang/String" "java/lang/String" "coder" "B", .fieldLink "java/lang/String" 15 "java/lang/String" "coder" "B"] ++ objW "java/lang/String" 1 ++ staticW "java/lang/String" 177 Cmp3.yN ++ staticW "java/lang/String" 47 CodL.yN
def tab : Cond := tabOf yN yB 6 none site
def P (a : Addr) (D : Cell) (fV fC : Field) (b : Addr) (A : Cell) (z : Int32) (o len : Nat) (args : Array Value) (s : State) : Prop := args = #[.ref a, .ref b, .int (Int32.ofNat o), .int (Int32.ofNat len), .null] ∧ Blank "java/lang/String" a D s ∧ Found "java/lang/String" "value" "[B" fV s ∧ Found "java/lang/String" "coder" "B" fC s ∧ Ch b A s ∧ StaticIs s "java/lang/String" "COMPACT_STRINGS" "Z" (.int z) ∧ ¬ z = 0 ∧ 0 < len ∧ o + len ≤ A.slots.size ∧ len ≤ 536870912 ∧ ∀ i, i < len → ¬ 255 < cv A (o + i)
def E (a : Addr) (D : Cell) (fV fC : Field) (A : Cell) (o len : Nat) (r : Option Value) (s u : State) : Prop := Got a D fV fC A o len r s u
/-- len > 0, no char of the range above 255: a Latin-1 String of their low bytes -/
theorem law (l : Launch) (a : Addr) (D : Cell) (fV fC : Field) (b : Addr) (A : Cell) (z : Int32) (o len : Nat) : Law l yN 5 4 2 35 yB 6 none site (P a D fV fC b A z o len) (E a D fV fC A o len) [⟨a, fC.slot⟩, ⟨a, fV.slot⟩] 1 len := by
  refine Law.of_walk (plainFor_of_name (by decide +kernel)) (by decide +kernel) (by decide +kernel) (by decide) (fun _ _ h => by rw [h.1]; rfl) (fun _ U U' hal hh h => ⟨h.1, h.2.1.mv hal hh, h.2.2.1.al hal, h.2.2.2.1.al hal, h.2.2.2.2.1.mv hal hh, h.2.2.2.2.2.1.there hal hh, h.2.2.2.2.2.2⟩) (fun r U U' V V' h1 hal h2 h => Got.mv r U U' V V' h1 hal h2 h) ?_
  intro p e s m args below meth c s₁ X0 hexec hbytes hml hret hlk hnm hown hh0 W hP
  obtain ⟨rfl, hB, f1, f2, hA, s1, hz, l0, l1, l2, hp⟩ := hP
  have a31 := hA.1.2.2.2
  have c1 : Steps p.tables e below (s₁.setTop (entryFrame m #[.ref a, .ref b, .int (Int32.ofNat o), .int (Int32.ofNat len), .null] 6)) (s₁.setTop (mkF m 0 #[.val (.ref a), .val (.ref b), .val (.int (Int32.ofNat o)), .val (.int (Int32.ofNat len)), .val .null, .unset] [])) := entry rfl
  have c2 : Steps p.tables e below (s₁.setTop (entryFrame m #[.ref a, .ref b, .int (Int32.ofNat o), .int (Int32.ofNat len), .null] 6)) (s₁.setTop (mkF m 1 #[.val (.ref a), .val (.ref b), .val (.int (Int32.ofNat o)), .val (.int (Int32.ofNat len)), .val .null, .unset] [.ref a])) := c1.trans (by
    refine XS.aloadN X0.here hexec rfl (hb hbytes d0) rfl rfl ?_
    exact Steps.refl _)
  obtain ⟨T3, X3, q3, st3⟩ := X0.oinit hexec hown (wks W (objW "java/lang/String" 1)) (g := (mkF m 1 #[.val (.ref a), .val (.ref b), .val (.int (Int32.ofNat o)), .val (.int (Int32.ofNat len)), .val .null, .unset] [.ref a])) rfl (by rw [hml]; rfl) (rest := []) rfl (hb hbytes d1) (W := 0) (by show 2 * 0 + 0 ≤ _; decide) (Nat.le_of_ble_eq_true rfl) (Nat.le_of_ble_eq_true rfl)
  have hh3 := q3.trans hh0
  have c4 : Steps p.tables e below (s₁.setTop (entryFrame m #[.ref a, .ref b, .int (Int32.ofNat o), .int (Int32.ofNat len), .null] 6)) (T3.setTop (mkF m 27 #[.val (.ref a), .val (.ref b), .val (.int (Int32.ofNat o)), .val (.int (Int32.ofNat len)), .val .null, .unset] [])) := (c2.trans (st3 _ (Steps.refl _))).trans (by
    refine XS.iloadN X3.here hexec rfl (hb hbytes d4) rfl ?_
    refine XS.ifYes X3.here hexec rfl (pc0 := 5) rfl (hb hbytes d5) rfl (i0_ne_t (nz32 (by omega) l0)) (by decide) rfl ?_
    exact Steps.refl _)
  obtain ⟨T5, X5, q5, st5⟩ := X3.sget hexec hown (wk W (.fieldLink "java/lang/String" 38 "java/lang/String" "COMPACT_STRINGS" "Z")) s1 (fun _ _ h => by rw [hh3]; exact h) (g := (mkF m 27 #[.val (.ref a), .val (.ref b), .val (.int (Int32.ofNat o)), .val (.int (Int32.ofNat len)), .val .null, .unset] [])) rfl (hb hbytes d27)
  have hh5 := q5.trans hh3
  have c6 : Steps p.tables e below (s₁.setTop (entryFrame m #[.ref a, .ref b, .int (Int32.ofNat o), .int (Int32.ofNat len), .null] 6)) (T5.setTop (mkF m 30 #[.val (.ref a), .val (.ref b), .val (.int (Int32.ofNat o)), .val (.int (Int32.ofNat len)), .val .null, .unset] [.int z])) := c4.trans (st5 _ (Steps.refl _))
  have c7 : Steps p.tables e below (s₁.setTop (entryFrame m #[.ref a, .ref b, .int (Int32.ofNat o), .int (Int32.ofNat len), .null] 6)) (T5.setTop (mkF m 36 #[.val (.ref a), .val (.ref b), .val (.int (Int32.ofNat o)), .val (.int (Int32.ofNat len)), .val .null, .unset] [.int (Int32.ofNat len), .int (Int32.ofNat o), .ref b])) := c6.trans (by
    refine XS.ifNo X5.here hexec rfl (hb hbytes d30) rfl (i0_eq_f hz) ?_
    refine XS.aloadN X5.here hexec rfl (hb hbytes d33) rfl rfl ?_
    refine XS.iloadN X5.here hexec rfl (hb hbytes d34) rfl ?_
    refine XS.iloadN X5.here hexec rfl (hb hbytes d35) rfl ?_
    exact Steps.refl _)
  obtain ⟨v8, T8, X8, E8, g8⟩ := X5.callS hexec (Cmp3.law l b A o len) hown (wks W (staticW "java/lang/String" 177 Cmp3.yN)) (wk W Cmp3.tab) (W := 0) (Nat.le_of_ble_eq_true rfl) (Nat.le_of_ble_eq_true rfl) (Nat.le_refl _) (by show 0 + len ≤ len; omega) (g := (mkF m 36 #[.val (.ref a), .val (.ref b), .val (.int (Int32.ofNat o)), .val (.int (Int32.ofNat len)), .val .null, .unset] [.int (Int32.ofNat len), .int (Int32.ofNat o), .ref b])) rfl (by rw [hml]; rfl) c7 (argsL := [.ref b, .int (Int32.ofNat o), .int (Int32.ofNat len)]) (rest := []) rfl rfl (by show 2 * 0 + 0 ≤ _; decide) (hb hbytes d36) (⟨rfl, hA.mv X5.warmed.alike hh5, l1, l2, hp⟩)
  obtain ⟨e8, z8⟩ := E8
  obtain ⟨rfl, N, n1, n2, n3, n4, n5, n6⟩ := NewArr.mv _ T5 s _ _ hh5.symm (Vm.Alike.refl _) rfl e8
  rw [hh5] at z8
  have hB1 := hB.keep X8.warmed.alike (n6 _ _ hB.1)
  have hne : s.heap.size ≠ a := (Nat.ne_of_lt (Array.getElem?_eq_some_iff.mp hB.1).1).symm
  have c9 : Steps p.tables e below (s₁.setTop (entryFrame m #[.ref a, .ref b, .int (Int32.ofNat o), .int (Int32.ofNat len), .null] 6)) (T8.setTop (mkF m 39 #[.val (.ref a), .val (.ref b), .val (.int (Int32.ofNat o)), .val (.int (Int32.ofNat len)), .val .null, .unset] [.ref s.heap.size])) := g8
  have c10 : Steps p.tables e below (s₁.setTop (entryFrame m #[.ref a, .ref b, .int (Int32.ofNat o), .int (Int32.ofNat len), .null] 6)) (T8.setTop (mkF m 45 #[.val (.ref a), .val (.ref b), .val (.int (Int32.ofNat o)), .val (.int (Int32.ofNat len)), .val .null, .val (.ref s.heap.size)] [.int (Int32.ofNat N.slots.size), .ref s.heap.size, .ref a])) := by
    have hc : Steps p.tables e below (s₁.setTop (entryFrame m #[.ref a, .ref b, .int (Int32.ofNat o), .int (Int32.ofNat len), .null] 6)) (T8.setTop (mkF m 45 #[.val (.ref a), .val (.ref b), .val (.int (Int32.ofNat o)), .val (.int (Int32.ofNat len)), .val .null, .val (.ref s.heap.size)] [.int (Int32.ofNat len), .ref s.heap.size, .ref a])) := c9.trans (by
      refine XS.astore X8.here hexec rfl (hb hbytes d39) rfl rfl rfl ?_
      refine XS.aloadN X8.here hexec rfl (hb hbytes d41) rfl rfl ?_
      refine XS.aload X8.here hexec rfl (hb hbytes d42) rfl rfl ?_
      refine XS.iloadN X8.here hexec rfl (hb hbytes d44) rfl ?_
      exact Steps.refl _)
    rw [n4]; exact hc
  obtain ⟨v11, T11, X11, E11, g11⟩ := X8.callS hexec (CodL.law l s.heap.size N) hown (wks W (staticW "java/lang/String" 47 CodL.yN)) (wk W CodL.tab) (W := 1) (Nat.le_of_ble_eq_true rfl) (Nat.le_of_ble_eq_true rfl) (Nat.le_refl _) (by show 0 + len + 0 ≤ len; omega) (g := (mkF m 45 #[.val (.ref a), .val (.ref b), .val (.int (Int32.ofNat o)), .val (.int (Int32.ofNat len)), .val .null, .val (.ref s.heap.size)] [.int (Int32.ofNat N.slots.size), .ref s.heap.size, .ref a])) rfl (by rw [hml]; rfl) c10 (argsL := [.ref s.heap.size, .int (Int32.ofNat N.slots.size)]) (rest := [.ref a]) rfl rfl (by show 2 * 0 + (1 + 0) ≤ _; decide) (hb hbytes d45) (⟨rfl, n1⟩)
  obtain ⟨rfl, q11⟩ := E11
  have hB11 := hB1.mv (X8.warmed.alike.symm.trans X11.warmed.alike) q11
  have c12 : Steps p.tables e below (s₁.setTop (entryFrame m #[.ref a, .ref b, .int (Int32.ofNat o), .int (Int32.ofNat len), .null] 6)) (T11.setTop (mkF m 48 #[.val (.ref a), .val (.ref b), .val (.int (Int32.ofNat o)), .val (.int (Int32.ofNat len)), .val .null, .val (.ref s.heap.size)] [.int 0, .ref a])) := g11
  obtain ⟨T13, X13, p13, bl13, sl13, st13⟩ := X11.finit hexec hown (wk W (.fieldLink "java/lang/String" 15 "java/lang/String" "coder" "B")) (Or.inr ⟨_, (wk W (.laysFinal "java/lang/String" "java/lang/String" "coder" "B"))⟩) (Or.inl ⟨rfl, hnm⟩) f2 (Or.inl rfl) hB11 (t := .byte) (by decide +kernel) rfl (g := (mkF m 48 #[.val (.ref a), .val (.ref b), .val (.int (Int32.ofNat o)), .val (.int (Int32.ofNat len)), .val .null, .val (.ref s.heap.size)] [.int 0, .ref a])) rfl (rest := []) rfl (hb hbytes d48)
  have c14 : Steps p.tables e below (s₁.setTop (entryFrame m #[.ref a, .ref b, .int (Int32.ofNat o), .int (Int32.ofNat len), .null] 6)) (T13.setTop (mkF m 54 #[.val (.ref a), .val (.ref b), .val (.int (Int32.ofNat o)), .val (.int (Int32.ofNat len)), .val .null, .val (.ref s.heap.size)] [.ref s.heap.size, .ref a])) := (c12.trans (st13 _ (Steps.refl _))).trans (by
    refine XS.aloadN X13.here hexec rfl (hb hbytes d51) rfl rfl ?_
    refine XS.aload X13.here hexec rfl (hb hbytes d52) rfl rfl ?_
    exact Steps.refl _)
  obtain ⟨T15, X15, p15, bl15, sl15, st15⟩ := X13.finit hexec hown (wk W (.fieldLink "java/lang/String" 9 "java/lang/String" "value" "[B")) (Or.inr ⟨_, (wk W (.laysFinal "java/lang/String" "java/lang/String" "value" "[B"))⟩) (Or.inl ⟨rfl, hnm⟩) f1 (Or.inl rfl) bl13 (t := (.array .byte)) (by decide +kernel) rfl (g := (mkF m 54 #[.val (.ref a), .val (.ref b), .val (.int (Int32.ofNat o)), .val (.int (Int32.ofNat len)), .val .null, .val (.ref s.heap.size)] [.ref s.heap.size, .ref a])) rfl (rest := []) rfl (hb hbytes d54)
  have c16 : Steps p.tables e below (s₁.setTop (entryFrame m #[.ref a, .ref b, .int (Int32.ofNat o), .int (Int32.ofNat len), .null] 6)) (T15.setTop (mkF m 57 #[.val (.ref a), .val (.ref b), .val (.int (Int32.ofNat o)), .val (.int (Int32.ofNat len)), .val .null, .val (.ref s.heap.size)] [])) := c14.trans (st15 _ (Steps.refl _))
  have ap := apart (Or.inr ⟨_, (wk W (.laysFinal "java/lang/String" "java/lang/String" "value" "[B"))⟩) (Or.inr ⟨_, (wk W (.laysFinal "java/lang/String" "java/lang/String" "coder" "B"))⟩) f1 f2 (t₁ := .array .byte) (t₂ := .byte) (by decide +kernel) (by decide +kernel) (by decide)
  have al := X8.warmed.alike.symm.trans X15.warmed.alike
  have n7 : T11.heap[s.heap.size]? = some N := by rw [q11]; exact n1.1
  exact ⟨T15, none, _, _, _, X15, by simp, rfl, by omega, (fun _ => rfl), ⟨rfl, _, N, bl15, ((Same.refl D _).set _ (by simp)).set _ (by simp), sl15, (Cell.slots_setSlot_ne _ ap).trans sl13, n1.keep al (p15.other hne (p13.other hne n7)), n2, by rw [al.findClass]; exact n3, n4, n5, fun y c h1 h2 => p15.other h1 (p13.other h1 (by rw [q11]; exact n6 y c h2)), by rw [p15.2.2, p13.2.2, q11]; exact z8⟩, fun fs hl => c16.trans (X15.returnOut hexec hret (hb hbytes d57) hl)⟩
end New4
namespace New1
def yN : MethodName := ⟨"java/lang/String", "<init>", "([C)V"⟩
abbrev yB : ByteArray := jdk_42_method_3_code
theorem d0 : decode yB 0 = .ok (.aload_n 0, 1) := by decide +kernel
theorem d1 : decode yB 1 = .ok (.aload_n 1, 1) := by decide +kernel
theorem d2 : decode yB 2 = .ok (.iconst 0, 1) := by decide +kernel
theorem d3 : decode yB 3 = .ok (.aload_n 1, 1) := by decide +kernel
theorem d4 : decode yB 4 = .ok (.arraylength, 1) := by decide +kernel
theorem d5 : decode yB 5 = .ok (.aconst_null, 1) := by decide +kernel
theorem d6 : decode yB 6 = .ok (.invokespecial 27, 3) := by decide +kernel
theorem d9 : decode yB 9 = .ok (.return_, 1) := by decide +kernel
def site : List Cond := [New4.tab] ++ initW "java/lang/String" 27 New4.yN
def tab : Cond := tabOf yN yB 2 none site
def P (a : Addr) (D : Cell) (fV fC : Field) (b : Addr) (A : Cell) (z : Int32) (args : Array Value) (s : State) : Prop := args = #[.ref a, .ref b] ∧ Blank "java/lang/String" a D s ∧ Found "java/lang/String" "value" "[B" fV s ∧ Found "java/lang/String" "coder" "B" fC s ∧ Ch b A s ∧ StaticIs s "java/lang/String" "COMPACT_STRINGS" "Z" (.int z) ∧ ¬ z = 0 ∧ 0 < A.slots.size ∧ A.slots.size ≤ 536870912 ∧ ∀ i, i < A.slots.size → ¬ 255 < cv A i
def E (a : Addr) (D : Cell) (fV fC : Field) (A : Cell) (r : Option Value) (s u : State) : Prop := Got a D fV fC A 0 A.slots.size r s u
/-- new String(chars), not empty, no char above 255: a Latin-1 String of their low bytes -/
theorem law (l : Launch) (a : Addr) (D : Cell) (fV fC : Field) (b : Addr) (A : Cell) (z : Int32) : Law l yN 2 1 3 52 yB 2 none site (P a D fV fC b A z) (E a D fV fC A) [⟨a, fC.slot⟩, ⟨a, fV.slot⟩] 1 A.slots.size := by
  refine Law.of_walk (plainFor_of_name (by decide +kernel)) (by decide +kernel) (by decide +kernel) (by decide) (fun _ _ h => by rw [h.1]; rfl) (fun _ U U' hal hh h => ⟨h.1, h.2.1.mv hal hh, h.2.2.1.al hal, h.2.2.2.1.al hal, h.2.2.2.2.1.mv hal hh, h.2.2.2.2.2.1.there hal hh, h.2.2.2.2.2.2⟩) (fun r U U' V V' h1 hal h2 h => Got.mv r U U' V V' h1 hal h2 h) ?_
  intro p e s m args below meth c s₁ X0 hexec hbytes hml hret hlk hnm hown hh0 W hP
  obtain ⟨rfl, hB, f1, f2, hA, s1, hz, l0, l2, hp⟩ := hP
  have c1 : Steps p.tables e below (s₁.setTop (entryFrame m #[.ref a, .ref b] 2)) (s₁.setTop (mkF m 0 #[.val (.ref a), .val (.ref b)] [])) := entry rfl
  have c2 : Steps p.tables e below (s₁.setTop (entryFrame m #[.ref a, .ref b] 2)) (s₁.setTop (mkF m 6 #[.val (.ref a), .val (.ref b)] [.null, .int (Int32.ofNat A.slots.size), .int 0, .ref b, .ref a])) := c1.trans (by
    refine XS.aloadN X0.here hexec rfl (hb hbytes d0) rfl rfl ?_
    refine XS.aloadN X0.here hexec rfl (hb hbytes d1) rfl rfl ?_
    refine iconstV X0.here hexec rfl 0 (hb hbytes d2) (by decide) ?_
    refine XS.aloadN X0.here hexec rfl (hb hbytes d3) rfl rfl ?_
    refine X0.alen hexec (hA.1.mv X0.warmed.alike hh0) rfl rfl (hb hbytes d4) ?_
    refine XS.aconstNull X0.here hexec rfl (hb hbytes d5) ?_
    exact Steps.refl _)
  obtain ⟨v3, T3, X3, E3, g3⟩ := X0.callN hexec (New4.law l a D fV fC b A z 0 A.slots.size) rfl hown (wks W (initW "java/lang/String" 27 New4.yN)) (W New4.tab (by simp only [site, List.mem_cons, List.mem_append, true_or, or_true])) (W := 0) (Nat.le_of_ble_eq_true rfl) (Nat.le_of_ble_eq_true rfl) (Nat.le_refl _) (by show 0 + A.slots.size ≤ A.slots.size; omega) (g := (mkF m 6 #[.val (.ref a), .val (.ref b)] [.null, .int (Int32.ofNat A.slots.size), .int (Int32.ofNat 0), .ref b, .ref a])) rfl (by rw [hml]; rfl) c2 (argsL := [.ref b, .int (Int32.ofNat 0), .int (Int32.ofNat A.slots.size), .null]) (rest := []) rfl rfl (by show 2 * 0 + 0 ≤ _; decide) (hb hbytes d6) (⟨rfl, hB.mv X0.warmed.alike hh0, f1.al X0.warmed.alike, f2.al X0.warmed.alike, hA.mv X0.warmed.alike hh0, s1.there X0.warmed.alike hh0, hz, l0, by omega, l2, fun i hi => by rw [Nat.zero_add]; exact hp i hi⟩)
  have e0 := Got.mv _ s₁ s _ _ hh0.symm (Vm.Alike.refl _) rfl E3
  obtain rfl := e0.1
  have c4 : Steps p.tables e below (s₁.setTop (entryFrame m #[.ref a, .ref b] 2)) (T3.setTop (mkF m 9 #[.val (.ref a), .val (.ref b)] [])) := g3
  exact ⟨T3, none, _, _, _, X3, by simp, rfl, by omega, (fun _ => rfl), e0, fun fs hl => c4.trans (X3.returnOut hexec hret (hb hbytes d9) hl)⟩
theorem pays {l : Launch} {R : Room} {p : Program} {e : Env} {below : List Frame} {s : State} {sargs : Array Value} {len W : Nat} (a : Addr) (D : Cell) (fV fC : Field) (b : Addr) (A : Cell) (z : Int32) (htab : tab.before sargs s = true) (hfr : 4 ≤ R.frames) (hlo : W + 65 ≤ R.locals) :
    Back l R p e below s sargs yN len W (fun A₁ a₁ => A₁.cells + 1 ≤ R.cells ∧ A₁.slots + A.slots.size ≤ R.slots ∧ P a D fV fC b A z a₁ A₁.U) (fun A₁ _ v₁ B₁ => E a D fV fC A v₁ A₁.U B₁.U ∧ B₁.locs = A₁.locs ++ [⟨a, fC.slot⟩, ⟨a, fV.slot⟩] ∧ B₁.cells = A₁.cells + 1 ∧ B₁.slots = A₁.slots + A.slots.size) :=
  (law l a D fV fC b A z).pays htab hfr (by omega)
end New1
/-- the byte, read back as charAt reads it, is the char -/
theorem lo8_mask {x : Int32} (h0 : ¬ x < 0) (h1 : ¬ 255 < x) : lo8 x &&& 255 = x := by
  have t : ∀ k : Fin 256, lo8 (Int32.ofNat k.val) &&& 255 = Int32.ofNat k.val := by decide +kernel
  rw [Int32.lt_iff_toInt_lt] at h0 h1
  have e0 : (0 : Int32).toInt = 0 := rfl
  have e1 : (255 : Int32).toInt = 255 := rfl
  obtain ⟨k, hk⟩ : ∃ k : Nat, x.toInt = k := ⟨x.toInt.toNat, by omega⟩
  have hx : x = Int32.ofNat k := Int32.toInt_inj.mp (by rw [hk, Int32.toInt_ofNat_small (by omega)])
  rw [hx]
  exact t ⟨k, by omega⟩
end StrChars
namespace StrChars.Road
open Jvm Sem ClassFile Op Lib Jvm.Stand Jvm.Free Jvm.Free.XT
open Jvm.Lib.Cold (StaticIs)
abbrev ST : String := "java/lang/String"
/-- every table word that New1's law asks, flat -/
abbrev words : List Jvm.Cond := [.code New1.yN New1.yB 2 none, .initialized ST, .methodLink ST 27 New4.yN, .instanceMethod New4.yN,
  .code New4.yN New4.yB 6 none, .fieldLink ST 38 ST "COMPACT_STRINGS" "Z", .laysFinal ST ST "value" "[B", .fieldLink ST 9 ST "value" "[B", .laysFinal ST ST "coder" "B", .fieldLink ST 15 ST "coder" "B",
  .methodLink ST 1 Lib.objectInit, .instanceMethod Lib.objectInit, .code Lib.objectInit ⟨#[0xb1]⟩ 1 none, .methodLink ST 177 Cmp3.yN, .static Cmp3.yN, .methodLink ST 47 CodL.yN, .static CodL.yN,
  .code Cmp3.yN Cmp3.yB 6 (some (.array .byte)), .initialized U16, .arrayClass .byte, .methodLink U16 115 Cmp5.yN, .static Cmp5.yN, .code Cmp5.yN Cmp5.yB 7 (some .int), .code CodL.yN CodL.yB 2 (some .byte)]
theorem tab_of {a : Array Value} {s : State} (h : ∀ w ∈ words, w.before a s = true) : New1.tab.before a s = true := by
  have h5 : Cmp5.tab.before a s = true := unparts (wk h (.code Cmp5.yN Cmp5.yB 7 (some .int))) (wks h (.initialized Cmp5.yN.cls :: Cmp5.site))
  have hc : CodL.tab.before a s = true := unparts (wk h (.code CodL.yN CodL.yB 2 (some .byte))) (wks h (.initialized CodL.yN.cls :: CodL.site))
  have q5 : ∀ w ∈ Cmp5.tab :: words, w.before a s = true := fun w hw => (List.mem_cons.mp hw).elim (fun e => e ▸ h5) (h w)
  have h3 : Cmp3.tab.before a s = true := unparts (wk q5 (.code Cmp3.yN Cmp3.yB 6 (some (.array .byte)))) (wks q5 (.initialized Cmp3.yN.cls :: Cmp3.site))
  have q3 : ∀ w ∈ Cmp3.tab :: CodL.tab :: words, w.before a s = true := fun w hw => (List.mem_cons.mp hw).elim (fun e => e ▸ h3) fun hw => (List.mem_cons.mp hw).elim (fun e => e ▸ hc) (h w)
  have h4 : New4.tab.before a s = true := unparts (wk q3 (.code New4.yN New4.yB 6 none)) (wks q3 (.initialized New4.yN.cls :: New4.site))
  have q4 : ∀ w ∈ New4.tab :: words, w.before a s = true := fun w hw => (List.mem_cons.mp hw).elim (fun e => e ▸ h4) (h w)
  exact unparts (wk q4 (.code New1.yN New1.yB 2 none)) (wks q4 (.initialized New1.yN.cls :: New1.site))
/-- the words ride from the start Z to the walk's own state -/
theorem moved {Z s : State} {a0 args : Array Value} (hZ : Z.Warmed39 s.vm) (hw : ∀ d ∈ words, d.before a0 Z = true) : ∀ d ∈ words, d.before args s = true := fun d hd => by
  have q := hw d hd
  have t : ∀ d ∈ words, d = .arrayClass .byte ∨ (d.onTables && d.keepsFace) = true := by decide +kernel
  rcases t d hd with rfl | t
  · exact RoadKit.mvA hZ q
  · exact RoadKit.mv hZ q t
/-- WHAT COMES BACK, over the tables of the start Z: h the heap at the call, h' behind it -/
def Q (Z : State) (x : Addr) (A : Cell) (h : Heap) (v : Option Value) (h' : Heap) (L : List Loc) : Prop := v = none ∧ (∀ y ∈ L, y.base = x) ∧ RoadKit.Keep h h' [x] ∧ h'.size = h.size + 1 ∧ RoadKit.Exa Z h' x ST ∧ RoadKit.Fld Z h' x ST "value" "[B" (.ref h.size) ∧ RoadKit.Fld Z h' x ST "coder" "B" (.int 0) ∧
  (∃ V : Cell, RoadKit.Arr Z h' h.size V .byte ∧ V.vm = .none ∧ Z.vm.findClass "[B" = some V.cls ∧ V.slots.size = A.slots.size ∧ ∀ j, j < A.slots.size → V.slots[j]? = some (.int (lo8 (cv A j)))) ∧
  ∀ (O n d : String) (w : Value), RoadKit.Fld Z h x O n d w → RoadKit.slotOf Z O n d ≠ RoadKit.slotOf Z ST "value" "[B" → RoadKit.slotOf Z O n d ≠ RoadKit.slotOf Z ST "coder" "B" → RoadKit.Fld Z h' x O n d w
/-- **new String(chars) AT A CALL, IN THE ROAD'S FORM**: for specialBack behind newO: x the fresh String, b the char[] with the cell A -/
theorem back {p : Program} {l : Launch} {e : Env} {R : Room} {s : State} {args : Array Value} {below : List Frame} {len W : Nat} {Z : State} {a0 : Array Value} {h : Heap} (hZ : Z.Warmed39 s.vm) (hw : ∀ d ∈ words, d.before a0 Z = true) {kI : Nat} (wi : (Jvm.Cond.instantiable ST kI).before a0 Z = true)
    {x b : Addr} {A : Cell} {z : Int32} {v0 c0 : Value} (E : RoadKit.Exa Z h x ST) (V : RoadKit.Fld Z h x ST "value" "[B" v0) (C : RoadKit.Fld Z h x ST "coder" "B" c0) (K : RoadKit.Arr Z h b A .char) (hty : Typed .char A) (S : RoadKit.Sta Z h ST "COMPACT_STRINGS" "Z" (.int z)) (hz : ¬ z = 0)
    (l0 : 0 < A.slots.size) (l2 : A.slots.size ≤ 536870912) (hp : ∀ i, i < A.slots.size → ¬ 255 < cv A i) (hfr : 4 ≤ R.frames) (hlo : W + 65 ≤ R.locals) :
    Back l R p e below s args New1.yN len W (fun P a => a = #[.ref x, .ref b] ∧ P.U.heap = h ∧ P.cells + 1 ≤ R.cells ∧ P.slots + A.slots.size ≤ R.slots)
      (fun P _ v B => ∃ L, Q Z x A h v B.U.heap L ∧ B.locs = P.locs ++ L ∧ B.cells = P.cells + 1 ∧ B.slots = P.slots + A.slots.size) := by
  intro m meth c P g ig mk a X hg hsize hdg hW hn hp'
  obtain ⟨rfl, rfl, r1, r2⟩ := hp'
  have al : Z.vm.Alike P.U.vm := hZ.alike.trans X.warmed.alike
  obtain ⟨D, cfV, kV, iV, fV, hD, gV, stV, knV, obV, asV, slV⟩ := id V
  obtain ⟨D', cfC, kC, iC, fC, hD', gC, stC, -, -, asC, slC⟩ := id C
  cases hD.symm.trans hD'
  obtain ⟨D2, kD, e1, e2, e3, e4, e5⟩ := id E
  cases hD.symm.trans e1
  obtain ⟨c2, k2, i1, i2, i3, -⟩ := Cond.instantiable_spec wi
  cases e2.symm.trans i1
  cases e3.symm.trans i2
  obtain ⟨kU, u1, u2⟩ := al.2.2 _ _ e3
  have hB : Blank ST x D P.U := ⟨hD, ⟨knV, fun q hq => by rw [hq] at obV; cases obV⟩, by rw [al.findClass]; exact e2, kU, u1, by rw [u2]; exact i3, by rw [u2]; exact e5 i3⟩
  have F1 : Found ST "value" "[B" fV P.U := ⟨SBG.found_only al ⟨cfV, kV, iV, gV⟩, stV⟩
  have F2 : Found ST "coder" "B" fC P.U := ⟨SBG.found_only al ⟨cfC, kC, iC, gC⟩, stC⟩
  have hA : Ch b A P.U := ⟨⟨K.1, State.isArrayOf_alike al K.2.1, K.2.2, by omega⟩, hty⟩
  have hS : StaticIs P.U ST "COMPACT_STRINGS" "Z" (.int z) := by
    obtain ⟨cfS, iS, kS, fS, st, cS, t1, t2, t3, t4, t5, t6, t7⟩ := S
    exact StaticIs.there (s := { Z with heap := P.U.heap }) ⟨cfS, iS, kS, fS, st, cS, t1, t2, t3, t4, t5, (fun q => by rw [q] at t6; cases t6), t7⟩ al rfl
  obtain ⟨v, B, X', ⟨⟨hv, E', V', q1, q2, q3, q4, q5, q6, q7, q8, q9, q10, q11⟩, hl, hc, hs⟩, st⟩ := New1.pays x D fV fC b A z (tab_of (moved hZ hw)) hfr hlo m meth c P g ig mk _ X hg hsize hdg hW hn ⟨r1, r2, rfl, hB, F1, F2, hA, hS, hz, l0, l2, hp⟩
  have al' : Z.vm.Alike B.U.vm := hZ.alike.trans X'.warmed.alike
  have hsz : E'.slots.size = D.slots.size := by
    obtain ⟨-, -, -, kB, w1, w2, w3⟩ := q1
    obtain ⟨kB', y1, y2⟩ := al'.2.2 _ _ e3
    rw [q2.2.1] at w1
    cases w1.symm.trans y1
    rw [w3, e5 i3, y2]
  refine ⟨v, B, X', ⟨_, ⟨hv, ?_, ⟨by omega, fun y cy hy hn' => q10 y cy (by simpa using hn') hy, fun y cy hy => ?_⟩, q11, ⟨E', _, q1.1, by rw [q2.2.1]; exact e2, by rw [q2.2.1]; exact e3, by rw [q2.1]; exact obV, fun _ => by rw [hsz]; exact e5 i3⟩,
    ⟨E', cfV, kV, iV, fV, q1.1, gV, stV, by rw [q2.1]; exact knV, by rw [q2.1]; exact obV, by rw [q2.2.1]; exact asV, q3⟩, ⟨E', cfC, kC, iC, fC, q1.1, gC, stC, by rw [q2.1]; exact knV, by rw [q2.1]; exact obV, by rw [q2.2.1]; exact asC, q4⟩,
    ⟨V', ⟨q5.1, State.isArrayOf_alike al'.symm q5.2.1, q5.2.2.1⟩, q6, by rw [← al'.findClass]; exact q7, q8, fun j hj => by have := q9 j hj; rwa [Nat.zero_add] at this⟩, fun O n d w F n1 n2 => ?_⟩, hl, hc, hs⟩, st⟩
  · intro y hy
    simp only [List.mem_cons, List.not_mem_nil, or_false] at hy
    rcases hy with rfl | rfl <;> rfl
  · by_cases q : y = x
    · subst q
      cases hD.symm.trans hy
      exact ⟨E', q1.1, q2.2.1, q2.1, hsz⟩
    · exact ⟨cy, q10 y cy q hy, rfl, rfl, rfl⟩
  · obtain ⟨D3, cf, k, i, f, g1, g2, g3, g4, g5, g6, g7⟩ := F
    cases hD.symm.trans g1
    simp only [RoadKit.slotOf, g2, gV, gC, Option.map_some, Option.getD_some] at n1 n2
    exact ⟨E', cf, k, i, f, q1.1, g2, g3, by rw [q2.1]; exact g4, by rw [q2.1]; exact g5, by rw [q2.2.1]; exact g6, by rw [q2.2.2 f.slot (by simp [n1, n2])]; exact g7⟩
end StrChars.Road
namespace StrChars.Road
open Jvm Sem ClassFile Op Lib Jvm.Stand Jvm.Free Jvm.Free.XT
/-- WHAT COMES BACK, the byte[] as a list of values -/
def QA (Z : State) (x : Addr) (zn : Int32) (cs : List Int32) (h : Heap) (v : Option Value) (h' : Heap) (L : List Loc) : Prop := v = none ∧ (∀ y ∈ L, y.base = x) ∧ RoadKit.Keep h h' [x] ∧ h'.size = h.size + 1 ∧ RoadKit.Exa Z h' x ST ∧ RoadKit.Fld Z h' x ST "value" "[B" (.ref h.size) ∧ RoadKit.Fld Z h' x ST "coder" "B" (.int 0) ∧
  (∃ kb, Z.vm.findClass "[B" = some kb ∧ RoadKit.Arv Z h' h.size kb .byte zn (cs.map fun c => .int (lo8 c)) (.int 0)) ∧
  ∀ (O n d : String) (w : Value), RoadKit.Fld Z h x O n d w → RoadKit.slotOf Z O n d ≠ RoadKit.slotOf Z ST "value" "[B" → RoadKit.slotOf Z O n d ≠ RoadKit.slotOf Z ST "coder" "B" → RoadKit.Fld Z h' x O n d w
/-- **new String(chars) AT A CALL, THE ARRAYS AS LISTS**: the char[] at b holds cs, not empty, no char above 255 -/
theorem backArv {p : Program} {l : Launch} {e : Env} {R : Room} {s : State} {args : Array Value} {below : List Frame} {len W : Nat} {Z : State} {a0 : Array Value} {h : Heap} (hZ : Z.Warmed39 s.vm) (hw : ∀ d ∈ words, d.before a0 Z = true) {kI : Nat} (wi : (Jvm.Cond.instantiable ST kI).before a0 Z = true)
    {x b : Addr} {k : ClassId} {zn z : Int32} {cs : List Int32} {dv v0 c0 : Value} (E : RoadKit.Exa Z h x ST) (V : RoadKit.Fld Z h x ST "value" "[B" v0) (C : RoadKit.Fld Z h x ST "coder" "B" c0) (K : RoadKit.Arv Z h b k .char zn (cs.map Value.int) dv) (S : RoadKit.Sta Z h ST "COMPACT_STRINGS" "Z" (.int z)) (hz : ¬ z = 0)
    (hlen : zn.toNatClampNeg = cs.length) (h0 : 0 < cs.length) (hbig : cs.length ≤ 536870912) (hall : ∀ c ∈ cs, ¬ 255 < c) (hfr : 4 ≤ R.frames) (hlo : W + 65 ≤ R.locals) :
    Back l R p e below s args New1.yN len W (fun P a => a = #[.ref x, .ref b] ∧ P.U.heap = h ∧ P.cells + 1 ≤ R.cells ∧ P.slots + cs.length ≤ R.slots)
      (fun P _ v B => ∃ L, QA Z x zn cs h v B.U.heap L ∧ B.locs = P.locs ++ L ∧ B.cells = P.cells + 1 ∧ B.slots = P.slots + cs.length) := by
  obtain ⟨A, K1, K2, K3, K4, K5, K6⟩ := K
  have e : A.slots.size = cs.length := K3.trans hlen
  have hat : ∀ (i : Nat) (hi : i < cs.length), A.slots[i]? = some (.int cs[i]) := fun i hi => by rw [K5 i (by omega)]; simp [List.getD_eq_getElem?_getD, hi]
  have hcv : ∀ (i : Nat) (hi : i < cs.length), cv A i = cs[i] := fun i hi => by unfold cv; rw [hat i hi]
  have hty : Typed .char A := fun i v hv => by
    have hi : i < A.slots.size := (Array.getElem?_eq_some_iff.mp hv).1
    have q := K5 i hi
    rw [hv] at q
    rw [Option.some.inj q]
    exact K6 i hi
  refine Back.mono (back hZ hw wi E V C K1 hty S hz (by omega) (by omega) (fun i hi => by rw [hcv i (by omega)]; exact hall _ (List.getElem_mem _)) hfr hlo) (fun P a hp => ⟨hp.1, hp.2.1, hp.2.2.1, by rw [e]; exact hp.2.2.2⟩) (fun P a v B hp hq => ?_)
  obtain ⟨L, ⟨q1, q2, q3, q4, q5, q6, q7, ⟨V', v1, v2, v3, v4, v5⟩, q9⟩, hl, hc, hs⟩ := hq
  refine ⟨L, ⟨q1, q2, q3, q4, q5, q6, q7, ⟨V'.cls, v3, V', v1, rfl, by rw [v4, e, hlen], K4, fun i hi => ?_, fun i hi => ?_⟩, q9⟩, hl, hc, by rw [hs, e]⟩
  · have hi' : i < cs.length := by omega
    rw [v5 i (by omega), hcv i hi']; simp [List.getD_eq_getElem?_getD, hi']
  · have hi' : i < cs.length := by omega
    simp only [List.getD_eq_getElem?_getD, List.getElem?_map, List.getElem?_eq_getElem hi', Option.map_some, Option.getD_some]
    exact fits_lo8 _
end StrChars.Road
namespace StrChars.Road
open Jvm Sem ClassFile Op Lib Jvm.Stand Jvm.Free Jvm.Free.XT
/-- WHAT COMES BACK, in the writer's own shape -/
def QV (Z : State) (x : Addr) (N : Int32) (bs : List Int32) (h : Heap) (n0 : Nat) (v : Option Value) (h' : Heap) (L : List Loc) : Prop := v = none ∧ RoadKit.Fr n0 L ∧ RoadKit.Keep h h' [x] ∧ RoadKit.Exa Z h' x ST ∧ RoadKit.Fld Z h' x ST "coder" "B" (.int 0) ∧
  ∃ (t : Addr) (kb : ClassId), n0 ≤ t ∧ h.size ≤ t ∧ ¬ t = x ∧ RoadKit.Fld Z h' x ST "value" "[B" (.ref t) ∧ RoadKit.Arv Z h' t kb .byte N (bs.map Value.int) (.int 0)
/-- **new String(chars) AT A CALL, FOR THE WRITER**: a char[] of n known ints, each 0 to 255 -/
theorem backV {p : Program} {l : Launch} {e : Env} {R : Room} {s : State} {args : Array Value} {below : List Frame} {len W : Nat} {Z : State} {a0 : Array Value} {h : Heap} (hZ : Z.Warmed39 s.vm) (hw : ∀ d ∈ words, d.before a0 Z = true) {kI : Nat} (wi : (Jvm.Cond.instantiable ST kI).before a0 Z = true)
    {x b : Addr} {kC : ClassId} {cs bs : List Int32} {d v0 c0 : Value} {z N : Int32} {n n0 : Nat} (hx0 : n0 ≤ x) (hh0 : n0 ≤ h.size) (E : RoadKit.Exa Z h x ST) (V : RoadKit.Fld Z h x ST "value" "[B" v0) (C : RoadKit.Fld Z h x ST "coder" "B" c0) (K : RoadKit.Arv Z h b kC .char N (cs.map Value.int) d) (S : RoadKit.Sta Z h ST "COMPACT_STRINGS" "Z" (.int z)) (hz : ¬ z = 0)
    (hn : cs.length = n) (hN : N = Int32.ofNat n) (l0 : 0 < n) (l2 : n ≤ 4000) (hp : ∀ c ∈ cs, ¬ c < 0 ∧ ¬ (255 : Int32) < c) (hb : bs = cs.map (fun c => c.toInt8.toInt32)) (hfr : 4 ≤ R.frames) (hlo : W + 65 ≤ R.locals) :
    Back l R p e below s args (⟨"java/lang/String", "<init>", "([C)V"⟩ : MethodName) len W (fun P a => a = #[.ref x, .ref b] ∧ P.U.heap = h ∧ P.cells + 1 ≤ R.cells ∧ P.slots + n ≤ R.slots)
      (fun P _ v B => ∃ L, QV Z x N bs h n0 v B.U.heap L ∧ B.locs = P.locs ++ L ∧ B.cells = P.cells + 1 ∧ B.slots = P.slots + n) := by
  subst hn hN hb
  refine Back.mono (backArv hZ hw wi E V C K S hz (n32 (by omega)) l0 (by omega) (fun c hc => (hp c hc).2) hfr hlo) (fun P a hp => hp) (fun P a v B hp hq => ?_)
  obtain ⟨L, ⟨q1, q2, q3, q4, q5, q6, q7, ⟨kb, v1, v2⟩, q9⟩, hl, hc, hs⟩ := hq
  exact ⟨L, ⟨q1, fun y hy => by rw [q2 y hy]; exact hx0, q3, q5, q7, h.size, kb, hh0, Nat.le_refl _, Nat.ne_of_gt E.lt, q6, by rw [List.map_map]; exact v2⟩, hl, hc, hs⟩
end StrChars.Road
namespace StrChars
open Jvm Sem ClassFile Op Lib Jvm.Stand Jvm.Free.XT Jvm.Free.ALB Jvm.Free.JM Jvm.Free
open Jvm.Lib.Cold (StaticIs)
def hi8 (x : Int32) : Int32 := lo8 (x >>> ((8 : Int32) &&& 31))
/-- what StringUTF16.getChar makes of two bytes -/
def pairCh (u v : Int32) : Int32 := (((u &&& 255) <<< ((0 : Int32) &&& 31)) ||| ((v &&& 255) <<< ((8 : Int32) &&& 31))).toUInt32.toUInt16.toUInt32.toInt32
theorem lo8_and (x : Int32) : (lo8 x &&& 255).toBitVec.toNat = x.toBitVec.toNat % 256 := by
  have h : (lo8 x).toBitVec = (x.toBitVec.signExtend 8).signExtend 32 := by rw [lo8, Int8.toBitVec_toInt32, Int32.toBitVec_toInt8]
  rw [Int32.toBitVec_and, BitVec.toNat_and, h]
  have e : ((x.toBitVec.signExtend 8).signExtend 32).toNat % 256 = x.toBitVec.toNat % 256 := by
    rw [BitVec.toNat_signExtend]
    have hlt := x.toBitVec.isLt
    simp only [BitVec.toNat_setWidth, BitVec.toNat_signExtend]
    split <;> split <;> omega
  rw [← e]
  exact Nat.and_two_pow_sub_one_eq_mod _ 8
theorem pair_says {c : Int32} (h0 : ¬ c < 0) (h1 : ¬ 65535 < c) : pairCh (lo8 c) (hi8 c) = c := by
  rw [Int32.lt_iff_toInt_lt] at h0 h1
  have e0 : (0 : Int32).toInt = 0 := rfl
  have e1 : (65535 : Int32).toInt = 65535 := rfl
  have hc : c.toInt = c.toBitVec.toNat := by
    have := c.toBitVec.isLt
    have e : c.toInt = c.toBitVec.toInt := rfl
    rw [e] at h0 h1
    rw [e]
    rw [BitVec.toInt_eq_toNat_cond] at h0 h1 ⊢
    split at h0 <;> split <;> omega
  have hn : c.toBitVec.toNat < 65536 := by omega
  have a1 := lo8_and c
  have a2 : (hi8 c &&& 255).toBitVec.toNat = c.toBitVec.toNat / 256 := by
    rw [hi8, lo8_and]
    have e : ((8 : Int32) &&& 31) = 8 := by decide
    rw [e, Int32.toBitVec_shiftRight]
    have e2 : ((8 : Int32).toBitVec.smod 32) = 8#32 := by decide
    rw [e2, BitVec.sshiftRight_eq', BitVec.toNat_sshiftRight_of_msb_false (by rw [BitVec.msb_eq_false_iff_two_mul_lt]; omega)]
    show c.toBitVec.toNat >>> 8 % 256 = _
    rw [Nat.shiftRight_eq_div_pow]
    omega
  unfold pairCh
  apply Int32.toBitVec_inj.mp
  apply BitVec.eq_of_toNat_eq
  have f0 : ((0 : Int32) &&& 31) = 0 := by decide
  have f8 : ((8 : Int32) &&& 31) = 8 := by decide
  rw [f0, f8]
  have g : (((lo8 c &&& 255) <<< (0 : Int32)) ||| ((hi8 c &&& 255) <<< (8 : Int32))).toBitVec.toNat = c.toBitVec.toNat := by
    rw [Int32.toBitVec_or, Int32.toBitVec_shiftLeft, Int32.toBitVec_shiftLeft]
    have s0 : ((0 : Int32).toBitVec.smod 32) = 0#32 := by decide
    have s8 : ((8 : Int32).toBitVec.smod 32) = 8#32 := by decide
    rw [s0, s8, BitVec.toNat_or]
    simp only [BitVec.shiftLeft_eq', BitVec.toNat_shiftLeft, a1, a2]
    show (c.toBitVec.toNat % 256) <<< 0 % 2 ^ 32 ||| (c.toBitVec.toNat / 256) <<< 8 % 2 ^ 32 = _
    rw [Nat.shiftLeft_zero, Nat.mod_eq_of_lt (show c.toBitVec.toNat % 256 < 2 ^ 32 by omega), Nat.mod_eq_of_lt (show (c.toBitVec.toNat / 256) <<< 8 < 2 ^ 32 by rw [Nat.shiftLeft_eq]; omega), Nat.or_comm, ← Nat.shiftLeft_add_eq_or_of_lt (by omega), Nat.shiftLeft_eq]
    omega
  show BitVec.toNat (((((lo8 c &&& 255) <<< (0 : Int32)) ||| ((hi8 c &&& 255) <<< (8 : Int32))).toBitVec.setWidth 16).setWidth 32) = _
  rw [BitVec.toNat_setWidth, BitVec.toNat_setWidth, g]
  omega
end StrChars
namespace StrChars
open Jvm Sem ClassFile Op Lib Jvm.Stand Jvm.Free.XT Jvm.Free.ALB Jvm.Free.JM Jvm.Free
open Jvm.Lib.Cold (StaticIs)
/-- the array's cell V codes the n chars f 0 .. f (n - 1) by the coder cd, as the JDK does: coder 1 just where some char is above 255 -/
def Cod (cd : Int32) (n : Nat) (f : Nat → Int32) (V : Cell) : Prop := (cd = 0 ∧ V.slots.size = n ∧ ∀ j, j < n → V.slots[j]? = some (.int (lo8 (f j))) ∧ ¬ 255 < f j) ∨ (cd = 1 ∧ V.slots.size = 2 * n ∧ (∀ j, j < n → V.slots[2 * j]? = some (.int (lo8 (f j))) ∧ V.slots[2 * j + 1]? = some (.int (hi8 (f j)))) ∧ ∃ j, j < n ∧ 255 < f j)
/-- **x is a String of the n chars f 0 .. f (n - 1)**, Latin-1 or UTF-16; its array at t has the cell V -/
def Txt (x t : Addr) (V : Cell) (cd : Int32) (n : Nat) (f : Nat → Int32) (U : State) : Prop := Exact "java/lang/String" x U ∧ Has x "java/lang/String" "value" "[B" (.ref t) U ∧ Has x "java/lang/String" "coder" "B" (.int cd) U ∧ XT.Arr .byte t V U ∧ Cod cd n f V ∧ ∀ j, j < n → ¬ f j < 0 ∧ ¬ 65535 < f j
theorem Txt.mv {x t : Addr} {V : Cell} {cd : Int32} {n : Nat} {f : Nat → Int32} {U U' : State} (h : Txt x t V cd n f U) (hal : U.vm.Alike U'.vm) (hh : U'.heap = U.heap) : Txt x t V cd n f U' := ⟨h.1.mv hal hh, h.2.1.mv hal hh, h.2.2.1.mv hal hh, h.2.2.2.1.mv hal hh, h.2.2.2.2⟩
end StrChars
namespace StrChars.Road
open Jvm Sem ClassFile Op Lib Jvm.Stand Jvm.Free Jvm.Free.XT
open Jvm.Lib.Cold (StaticIs)
theorem consq {a : Array Value} {s : State} {c : Jvm.Cond} {L : List Jvm.Cond} (h0 : c.before a s = true) (h : ∀ w ∈ L, w.before a s = true) : ∀ w ∈ c :: L, w.before a s = true := fun w hw => (List.mem_cons.mp hw).elim (fun e => e ▸ h0) (h w)
/-- the bytes of the chars cs, low before high -/
def wideBytes : List Int32 → List Value
  | [] => []
  | c :: cs => .int (lo8 c) :: .int (hi8 c) :: wideBytes cs
theorem wide_lo (d : Value) : ∀ (cs : List Int32) (j : Nat), j < cs.length → (wideBytes cs).getD (2 * j) d = .int (lo8 (cs.getD j 0))
  | [], j, h => absurd h (Nat.not_lt_zero j)
  | c :: cs, 0, _ => rfl
  | c :: cs, j + 1, h => by
    have q := wide_lo d cs j (by simpa using h)
    rw [show 2 * (j + 1) = 2 * j + 1 + 1 from by omega]
    simpa [wideBytes] using q
theorem wide_hi (d : Value) : ∀ (cs : List Int32) (j : Nat), j < cs.length → (wideBytes cs).getD (2 * j + 1) d = .int (hi8 (cs.getD j 0))
  | [], j, h => absurd h (Nat.not_lt_zero j)
  | c :: cs, 0, _ => rfl
  | c :: cs, j + 1, h => by
    have q := wide_hi d cs j (by simpa using h)
    rw [show 2 * (j + 1) + 1 = 2 * j + 1 + 1 + 1 from by omega]
    simpa [wideBytes] using q
theorem low_at (d : Value) (cs : List Int32) (j : Nat) (h : j < cs.length) : (cs.map fun c => Value.int (lo8 c)).getD j d = .int (lo8 (cs.getD j 0)) := by
  simp [List.getD_eq_getElem?_getD, h]
/-- an array of N2 bytes vs codes the chars cs by the coder cd -/
def CodA (cs : List Int32) (cd N2 : Int32) (vs : List Value) : Prop := (cd = 0 ∧ N2 = Int32.ofNat cs.length ∧ vs = (cs.map fun c => Value.int (lo8 c)) ∧ ∀ c ∈ cs, ¬ 255 < c) ∨ (cd = 1 ∧ N2 = Int32.ofNat (2 * cs.length) ∧ vs = wideBytes cs ∧ ∃ c ∈ cs, 255 < c)
theorem CodA.cod {cs : List Int32} {cd N2 : Int32} {vs : List Value} {V : Cell} (h : CodA cs cd N2 vs) (hn : 2 * cs.length < 2 ^ 31) (hs : V.slots.size = N2.toNatClampNeg) (hv : RoadKit.Has V vs (.int 0)) : Cod cd cs.length (fun j => cs.getD j 0) V := by
  rcases h with ⟨rfl, rfl, rfl, h⟩ | ⟨rfl, rfl, rfl, c, hc, hw⟩
  · rw [n32 (by omega)] at hs
    exact Or.inl ⟨rfl, hs, fun j hj => ⟨by rw [hv j (by omega), low_at _ _ _ hj], by
      have e : cs.getD j 0 = cs[j] := by simp [List.getD_eq_getElem?_getD, hj]
      show ¬ 255 < cs.getD j 0
      rw [e]; exact h _ (List.getElem_mem _)⟩⟩
  · rw [n32 (by omega)] at hs
    obtain ⟨j, hj, rfl⟩ := List.getElem_of_mem hc
    exact Or.inr ⟨rfl, hs, fun j hj => ⟨by rw [hv _ (by omega), wide_lo _ _ _ hj], by rw [hv _ (by omega), wide_hi _ _ _ hj]⟩, j, hj, by
      have e : cs.getD j 0 = cs[j] := by simp [List.getD_eq_getElem?_getD, hj]
      show 255 < cs.getD j 0
      rw [e]; exact hw⟩
/-- an object of exactly java/lang/String, its two fields found: as the laws ask it -/
theorem strObj {Z U : State} {a0 : Array Value} {kI : Nat} (wi : (Jvm.Cond.instantiable ST kI).before a0 Z = true) (al : Z.vm.Alike U.vm) {x : Addr} {v0 c0 : Value} (E : RoadKit.Exa Z U.heap x ST) (V : RoadKit.Fld Z U.heap x ST "value" "[B" v0) (C : RoadKit.Fld Z U.heap x ST "coder" "B" c0) :
    ∃ (D : Cell) (fV fC : Field), Blank ST x D U ∧ Found ST "value" "[B" fV U ∧ Found ST "coder" "B" fC U ∧ D.slots[fV.slot]? = some v0 ∧ D.slots[fC.slot]? = some c0 ∧ RoadKit.slotOf Z ST "value" "[B" = fV.slot ∧ RoadKit.slotOf Z ST "coder" "B" = fC.slot := by
  obtain ⟨D, cfV, kV, iV, fV, hD, gV, stV, knV, obV, asV, slV⟩ := V
  obtain ⟨D', cfC, kC, iC, fC, hD', gC, stC, -, -, asC, slC⟩ := C
  cases hD.symm.trans hD'
  obtain ⟨D2, kD, e1, e2, e3, e4, e5⟩ := E
  cases hD.symm.trans e1
  obtain ⟨c2, k2, i1, i2, i3, -⟩ := Cond.instantiable_spec wi
  cases e2.symm.trans i1
  cases e3.symm.trans i2
  obtain ⟨kU, u1, u2⟩ := al.2.2 _ _ e3
  exact ⟨D, fV, fC, ⟨hD, ⟨knV, fun q hq => by rw [hq] at obV; cases obV⟩, by rw [al.findClass]; exact e2, kU, u1, by rw [u2]; exact i3, by rw [u2]; exact e5 i3⟩, ⟨SBG.found_only al ⟨cfV, kV, iV, gV⟩, stV⟩, ⟨SBG.found_only al ⟨cfC, kC, iC, gC⟩, stC⟩, slV, slC, by simp [RoadKit.slotOf, gV], by simp [RoadKit.slotOf, gC]⟩
theorem sta_is {Z U : State} (al : Z.vm.Alike U.vm) {C n d : String} {v : Value} (S : RoadKit.Sta Z U.heap C n d v) : StaticIs U C n d v := by
  obtain ⟨cfS, iS, kS, fS, st, cS, t1, t2, t3, t4, t5, t6, t7⟩ := S
  exact StaticIs.there (s := { Z with heap := U.heap }) ⟨cfS, iS, kS, fS, st, cS, t1, t2, t3, t4, t5, (fun q => by rw [q] at t6; cases t6), t7⟩ al rfl
end StrChars.Road
namespace StrChars
open Jvm Sem ClassFile Op Lib Jvm.Stand Jvm.Free.XT Jvm.Free.ALB Jvm.Free.JM Jvm.Free
open Jvm.Lib.Cold (StaticIs)
/-- what place i of a byte[]'s cell holds -/
def yv (A : Cell) (i : Nat) : Int32 := match A.slots[i]? with | some (.int x) => x | _ => 0
theorem yv_get {a : Addr} {A : Cell} {U : State} (h : XT.Arr .byte a A U) (ht : Typed .byte A) {i : Nat} (hi : i < A.slots.size) : A.slots[i]? = some (.int (yv A i)) := by
  have e := Array.getElem?_eq_getElem hi
  have f := ht i _ e
  unfold yv; rw [e]
  generalize A.slots[i] = v at f
  cases v <;> simp [fits] at f ⊢
/-- the two arrays are equal, place for place -/
def EqC (A B : Cell) : Prop := A.slots.size = B.slots.size ∧ ∀ i, i < A.slots.size → yv A i = yv B i
/-- a boolean that says whether p -/
def Says01 (q : Prop) (r : Option Value) (s u : State) : Prop := ∃ v : Int32, r = some (.int v) ∧ u.heap = s.heap ∧ ((v = 1 ∧ q) ∨ (v = 0 ∧ ¬ q))
theorem Says01.mv {q : Prop} : ∀ r (U U' V V' : State), U'.heap = U.heap → V.vm.Alike V'.vm → V'.heap = V.heap → Says01 q r U V → Says01 q r U' V' :=
  fun r U U' V V' h1 _ h2 ⟨v, a, b, c⟩ => ⟨v, a, by rw [h1, h2]; exact b, c⟩
namespace LEq
def yN : MethodName := ⟨"java/lang/StringLatin1", "equals", "([B[B)Z"⟩
abbrev yB : ByteArray := jdk_43_method_13_code
theorem d0 : decode yB 0 = .ok (.aload_n 0, 1) := by decide +kernel
theorem d1 : decode yB 1 = .ok (.arraylength, 1) := by decide +kernel
theorem d2 : decode yB 2 = .ok (.aload_n 1, 1) := by decide +kernel
theorem d3 : decode yB 3 = .ok (.arraylength, 1) := by decide +kernel
theorem d4 : decode yB 4 = .ok (.if_icmp (.ne) 30, 3) := by decide +kernel
theorem d7 : decode yB 7 = .ok (.iconst 0, 1) := by decide +kernel
theorem d8 : decode yB 8 = .ok (.istore_n 2, 1) := by decide +kernel
theorem d9 : decode yB 9 = .ok (.iload_n 2, 1) := by decide +kernel
theorem d10 : decode yB 10 = .ok (.aload_n 0, 1) := by decide +kernel
theorem d11 : decode yB 11 = .ok (.arraylength, 1) := by decide +kernel
theorem d12 : decode yB 12 = .ok (.if_icmp (.ge) 20, 3) := by decide +kernel
theorem d15 : decode yB 15 = .ok (.aload_n 0, 1) := by decide +kernel
theorem d16 : decode yB 16 = .ok (.iload_n 2, 1) := by decide +kernel
theorem d17 : decode yB 17 = .ok (.baload, 1) := by decide +kernel
theorem d18 : decode yB 18 = .ok (.aload_n 1, 1) := by decide +kernel
theorem d19 : decode yB 19 = .ok (.iload_n 2, 1) := by decide +kernel
theorem d20 : decode yB 20 = .ok (.baload, 1) := by decide +kernel
theorem d21 : decode yB 21 = .ok (.if_icmp (.eq) 5, 3) := by decide +kernel
theorem d24 : decode yB 24 = .ok (.iconst 0, 1) := by decide +kernel
theorem d25 : decode yB 25 = .ok (.ireturn, 1) := by decide +kernel
theorem d26 : decode yB 26 = .ok (.iinc 2 1, 3) := by decide +kernel
theorem d29 : decode yB 29 = .ok (.goto (-20), 3) := by decide +kernel
theorem d32 : decode yB 32 = .ok (.iconst 1, 1) := by decide +kernel
theorem d33 : decode yB 33 = .ok (.ireturn, 1) := by decide +kernel
theorem d34 : decode yB 34 = .ok (.iconst 0, 1) := by decide +kernel
theorem d35 : decode yB 35 = .ok (.ireturn, 1) := by decide +kernel
def site : List Cond := []
def tab : Cond := tabOf yN yB 3 (some .boolean) site
def P (a : Addr) (A : Cell) (b : Addr) (B : Cell) (args : Array Value) (s : State) : Prop := args = #[.ref a, .ref b] ∧ XT.Arr .byte a A s ∧ Typed .byte A ∧ XT.Arr .byte b B s ∧ Typed .byte B
/-- whether two byte[] are equal, place for place -/
theorem law (l : Launch) (a : Addr) (A : Cell) (b : Addr) (B : Cell) : Law l yN 2 2 0 0 yB 3 (some .boolean) site (P a A b B) (Says01 (EqC A B)) [] 0 0 := by
  refine Law.of_walk (plainFor_of_name (by decide +kernel)) (by decide +kernel) (by decide +kernel) (by decide) (fun _ _ h => by rw [h.1]; rfl) (fun _ U U' hal hh h => ⟨h.1, h.2.1.mv hal hh, h.2.2.1, h.2.2.2.1.mv hal hh, h.2.2.2.2⟩) (fun r U U' V V' h1 hal h2 h => Says01.mv r U U' V V' h1 hal h2 h) ?_
  intro p e s m args below meth c s₁ X0 hexec hbytes hml hret hlk hnm hown hh0 W hP
  obtain ⟨rfl, hA, tA, hB, tB⟩ := hP
  have a31 := hA.2.2.2
  have b31 := hB.2.2.2
  have hA0 := hA.mv X0.warmed.alike hh0
  have hB0 := hB.mv X0.warmed.alike hh0
  have c1 : Steps p.tables e below (s₁.setTop (entryFrame m #[.ref a, .ref b] 3)) (s₁.setTop (mkF m 0 #[.val (.ref a), .val (.ref b), .unset] [])) := entry rfl
  have c2 : Steps p.tables e below (s₁.setTop (entryFrame m #[.ref a, .ref b] 3)) (s₁.setTop (mkF m 4 #[.val (.ref a), .val (.ref b), .unset] [.int (Int32.ofNat B.slots.size), .int (Int32.ofNat A.slots.size)])) := c1.trans (by
    refine XS.aloadN X0.here hexec rfl (hb hbytes d0) rfl rfl ?_
    refine X0.alen hexec hA0 rfl rfl (hb hbytes d1) ?_
    refine XS.aloadN X0.here hexec rfl (hb hbytes d2) rfl rfl ?_
    refine X0.alen hexec hB0 rfl rfl (hb hbytes d3) ?_
    exact Steps.refl _)
  by_cases hs : A.slots.size = B.slots.size
  · have c3 : Steps p.tables e below (s₁.setTop (entryFrame m #[.ref a, .ref b] 3)) (s₁.setTop (mkF m 9 #[.val (.ref a), .val (.ref b), .val (.int 0)] [])) := c2.trans (by
      refine XS.icmpNo X0.here hexec rfl (hb hbytes d4) rfl (ii_ne_f (by rw [hs])) ?_
      refine iconstV X0.here hexec rfl 0 (hb hbytes d7) (by decide) ?_
      refine XS.istoreN X0.here hexec rfl (hb hbytes d8) rfl rfl ?_
      exact Steps.refl _)
    have loop : ∀ (r i : Nat), i + r = A.slots.size → (∀ j, j < i → yv A j = yv B j) → Steps p.tables e below (s₁.setTop (entryFrame m #[.ref a, .ref b] 3)) (s₁.setTop (mkF m 9 #[.val (.ref a), .val (.ref b), .val (.int (Int32.ofNat i))] [])) → ∃ (pc : Nat) (Ls : Array Slot) (v : Int32), (pc = 25 ∨ pc = 33) ∧ ((v = 1 ∧ EqC A B) ∨ (v = 0 ∧ ¬ EqC A B)) ∧ Steps p.tables e below (s₁.setTop (entryFrame m #[.ref a, .ref b] 3)) (s₁.setTop (mkF m pc Ls [.int v])) := by
      intro r
      induction r with
      | zero =>
        intro i hi he cl
        exact ⟨33, _, 1, Or.inr rfl, Or.inl ⟨rfl, hs, fun j hj => he j (by omega)⟩, cl.trans (by
          refine XS.iloadN X0.here hexec rfl (hb hbytes d9) rfl ?_
          refine XS.aloadN X0.here hexec rfl (hb hbytes d10) rfl rfl ?_
          refine X0.alen hexec hA0 rfl rfl (hb hbytes d11) ?_
          refine XS.icmpYes X0.here hexec rfl (pc0 := 12) rfl (hb hbytes d12) rfl (ii_ge_t (nlt32 (by omega) (by omega))) (by decide) rfl ?_
          refine iconstV X0.here hexec rfl 1 (hb hbytes d32) (by decide) ?_
          exact Steps.refl _)⟩
      | succ r ih =>
        intro i hi he cl
        have c4 : Steps p.tables e below (s₁.setTop (entryFrame m #[.ref a, .ref b] 3)) (s₁.setTop (mkF m 21 #[.val (.ref a), .val (.ref b), .val (.int (Int32.ofNat i))] [.int (yv B i), .int (yv A i)])) := cl.trans (by
          refine XS.iloadN X0.here hexec rfl (hb hbytes d9) rfl ?_
          refine XS.aloadN X0.here hexec rfl (hb hbytes d10) rfl rfl ?_
          refine X0.alen hexec hA0 rfl rfl (hb hbytes d11) ?_
          refine XS.icmpNo X0.here hexec rfl (hb hbytes d12) rfl (ii_ge_f (lt32 (by omega) (by omega))) ?_
          refine XS.aloadN X0.here hexec rfl (hb hbytes d15) rfl rfl ?_
          refine XS.iloadN X0.here hexec rfl (hb hbytes d16) rfl ?_
          refine X0.aget hexec hA0 rfl (yv_get hA tA (i := i) (by omega)) rfl rfl (hb hbytes d17) ?_
          refine XS.aloadN X0.here hexec rfl (hb hbytes d18) rfl rfl ?_
          refine XS.iloadN X0.here hexec rfl (hb hbytes d19) rfl ?_
          refine X0.aget hexec hB0 rfl (yv_get hB tB (i := i) (by omega)) rfl rfl (hb hbytes d20) ?_
          exact Steps.refl _)
        by_cases hv : yv A i = yv B i
        · have c5 : Steps p.tables e below (s₁.setTop (entryFrame m #[.ref a, .ref b] 3)) (s₁.setTop (mkF m 9 #[.val (.ref a), .val (.ref b), .val (.int (Int32.ofNat i + 1))] [])) := c4.trans (by
            refine XS.icmpYes X0.here hexec rfl (pc0 := 21) rfl (hb hbytes d21) rfl (ii_eq_t hv) (by decide) rfl ?_
            refine iincV X0.here hexec rfl 1 (hb hbytes d26) (by decide) rfl rfl ?_
            refine XS.goto X0.here hexec rfl (pc0 := 29) rfl (hb hbytes d29) (by decide) rfl ?_
            exact Steps.refl _)
          rw [succ32] at c5
          exact ih (i + 1) (by omega) (fun j hj => by
            by_cases e : j = i
            · rw [e]; exact hv
            · exact he j (by omega)) c5
        · exact ⟨25, _, 0, Or.inl rfl, Or.inr ⟨rfl, fun q => hv (q.2 i (by omega))⟩, c4.trans (by
            refine XS.icmpNo X0.here hexec rfl (hb hbytes d21) rfl (ii_eq_f hv) ?_
            refine iconstV X0.here hexec rfl 0 (hb hbytes d24) (by decide) ?_
            exact Steps.refl _)⟩
    obtain ⟨pc, Ls, v, hpc, hv, cz⟩ := loop A.slots.size 0 (by omega) (fun j hj => absurd hj (Nat.not_lt_zero j)) c3
    have nv : narrow .boolean (.int v) = .int v := by rcases hv with ⟨rfl, -⟩ | ⟨rfl, -⟩ <;> rfl
    rcases hpc with rfl | rfl
    · exact ⟨s₁, some (.int v), _, _, _, X0, rfl, rfl, rfl, (fun h => by cases h), ⟨v, rfl, hh0, hv⟩, fun fs hl => cz.trans (X0.ireturnOut hexec hret nv (Or.inr (Or.inl rfl)) (hb hbytes d25) hl)⟩
    · exact ⟨s₁, some (.int v), _, _, _, X0, rfl, rfl, rfl, (fun h => by cases h), ⟨v, rfl, hh0, hv⟩, fun fs hl => cz.trans (X0.ireturnOut hexec hret nv (Or.inr (Or.inl rfl)) (hb hbytes d33) hl)⟩
  · have c3 : Steps p.tables e below (s₁.setTop (entryFrame m #[.ref a, .ref b] 3)) (s₁.setTop (mkF m 35 #[.val (.ref a), .val (.ref b), .unset] [.int 0])) := c2.trans (by
      refine XS.icmpYes X0.here hexec rfl (pc0 := 4) rfl (hb hbytes d4) rfl (ii_ne_t (ne32 a31 b31 hs)) (by decide) rfl ?_
      refine iconstV X0.here hexec rfl 0 (hb hbytes d34) (by decide) ?_
      exact Steps.refl _)
    exact ⟨s₁, some (.int 0), _, _, _, X0, rfl, rfl, rfl, (fun h => by cases h), ⟨0, rfl, hh0, Or.inr ⟨rfl, fun q => hs q.1⟩⟩, fun fs hl => c3.trans (X0.ireturnOut hexec hret rfl (Or.inr (Or.inl rfl)) (hb hbytes d35) hl)⟩
end LEq
theorem Cod.ty {cd : Int32} {n : Nat} {f : Nat → Int32} {V : Cell} (h : Cod cd n f V) : Typed .byte V := fun i v hv => by
  have hi : i < V.slots.size := (Array.getElem?_eq_some_iff.mp hv).1
  rcases h with ⟨-, k1, k2⟩ | ⟨-, k1, k2, -⟩
  · rw [(k2 i (by omega)).1] at hv; cases hv; exact fits_lo8 _
  · rcases Nat.mod_two_eq_zero_or_one i with e | e
    · obtain ⟨j, rfl⟩ : ∃ j, i = 2 * j := ⟨i / 2, by omega⟩
      rw [(k2 j (by omega)).1] at hv; cases hv; exact fits_lo8 _
    · obtain ⟨j, rfl⟩ : ∃ j, i = 2 * j + 1 := ⟨i / 2, by omega⟩
      rw [(k2 j (by omega)).2] at hv; cases hv; exact fits_lo8 _
/-- the same text -/
def SameT (n : Nat) (f : Nat → Int32) (k : Nat) (g : Nat → Int32) : Prop := n = k ∧ ∀ j, j < n → f j = g j
theorem lo8_inj {x y : Int32} (h0 : ¬ x < 0) (h1 : ¬ 255 < x) (k0 : ¬ y < 0) (k1 : ¬ 255 < y) (h : lo8 x = lo8 y) : x = y := by
  rw [← lo8_mask h0 h1, ← lo8_mask k0 k1, h]
/-- arrays coded by one coder are equal just where the texts are -/
theorem Cod.eqv {cd : Int32} {n k : Nat} {f g : Nat → Int32} {V V' : Cell} (h : Cod cd n f V) (h' : Cod cd k g V') (hf : ∀ j, j < n → ¬ f j < 0 ∧ ¬ 65535 < f j) (hg : ∀ j, j < k → ¬ g j < 0 ∧ ¬ 65535 < g j) : EqC V V' ↔ SameT n f k g := by
  have yvv : ∀ {W : Cell} {i : Nat} {x : Int32}, W.slots[i]? = some (.int x) → yv W i = x := fun q => by unfold yv; rw [q]
  rcases h with ⟨rfl, k1, k2⟩ | ⟨rfl, k1, k2, -⟩
  · rcases h' with ⟨-, m1, m2⟩ | ⟨e, -⟩
    · constructor
      · rintro ⟨e1, e2⟩
        refine ⟨by omega, fun j hj => ?_⟩
        have q := e2 j (by omega)
        rw [yvv (k2 j hj).1, yvv (m2 j (by omega)).1] at q
        exact lo8_inj (hf j hj).1 (k2 j hj).2 (hg j (by omega)).1 (m2 j (by omega)).2 q
      · rintro ⟨rfl, e2⟩
        refine ⟨by omega, fun j hj => ?_⟩
        rw [yvv (k2 j (by omega)).1, yvv (m2 j (by omega)).1, e2 j (by omega)]
    · exact absurd e (by decide)
  · rcases h' with ⟨e, -⟩ | ⟨-, m1, m2, -⟩
    · exact absurd e (by decide)
    · constructor
      · rintro ⟨e1, e2⟩
        refine ⟨by omega, fun j hj => ?_⟩
        have q1 := e2 (2 * j) (by omega)
        have q2 := e2 (2 * j + 1) (by omega)
        rw [yvv (k2 j hj).1, yvv (m2 j (by omega)).1] at q1
        rw [yvv (k2 j hj).2, yvv (m2 j (by omega)).2] at q2
        rw [← pair_says (hf j hj).1 (hf j hj).2, ← pair_says (hg j (by omega)).1 (hg j (by omega)).2, q1, q2]
      · rintro ⟨rfl, e2⟩
        refine ⟨by omega, fun i hi => ?_⟩
        rcases Nat.mod_two_eq_zero_or_one i with e | e
        · obtain ⟨j, rfl⟩ : ∃ j, i = 2 * j := ⟨i / 2, by omega⟩
          rw [yvv (k2 j (by omega)).1, yvv (m2 j (by omega)).1, e2 j (by omega)]
        · obtain ⟨j, rfl⟩ : ∃ j, i = 2 * j + 1 := ⟨i / 2, by omega⟩
          rw [yvv (k2 j (by omega)).2, yvv (m2 j (by omega)).2, e2 j (by omega)]
/-- two codings differ: so do the texts -/
theorem Cod.dif {cd cd' : Int32} {n k : Nat} {f g : Nat → Int32} {V V' : Cell} (h : Cod cd n f V) (h' : Cod cd' k g V') (hne : ¬ cd = cd') : ¬ SameT n f k g := by
  rintro ⟨rfl, e⟩
  rcases h with ⟨rfl, -, k2⟩ | ⟨rfl, -, -, j, hj, hw⟩
  · rcases h' with ⟨rfl, -⟩ | ⟨-, -, -, j, hj, hw⟩
    · exact hne rfl
    · exact (k2 j hj).2 (by rw [e j hj]; exact hw)
  · rcases h' with ⟨-, -, m2⟩ | ⟨rfl, -⟩
    · exact (m2 j hj).2 (by rw [← e j hj]; exact hw)
    · exact hne rfl
/-- an object of exactly C is an instance of C -/
theorem cinst {p : Program} {l : Launch} {e : Env} {R : Room} {s : State} {m : MethodId} {args : Array Value} {below : List Frame} {meth : Method} {c : Code} {T : State} {locs : List Loc} {cells slots : Nat} (X : Stand p l e R s m args below meth c T locs cells slots) (hexec : p.tables.exec = Jvm.exec) {own C : String} {index : Nat} (hown : s.vm.findClass own = some m.cls) (hlink : (Cond.classLink own index C).before args s = true) {a : Addr} (hE : Exact C a T)
    {g : JFrame} (hg : g.method = m) {rest : List Value} (hstack : g.stack = .ref a :: rest) (hdg : decode c.code g.pc = .ok (.instanceof index, 3)) :
    ∃ T', Stand p l e R s m args below meth c T' locs cells slots ∧ T'.heap = T.heap ∧ ∀ target, Steps p.tables e below (T'.setTop { g with pc := g.pc + 3, stack := .int 1 :: rest }) target → Steps p.tables e below (T.setTop g) target := by
  obtain ⟨cB, h1, D, h2, h3, h4⟩ := hE
  have h1' : s.vm.findClass C = some cB := by rw [← X.warmed.alike.findClass]; exact h1
  obtain ⟨vm', X', st⟩ := X.instanceofYes hexec hown hlink h2 h4 h1' (by rw [h3]; exact Jvm.Free.SB.assignable_self _ _) hg hstack hdg
  exact ⟨_, X', rfl, st⟩
theorem cself {p : Program} {l : Launch} {e : Env} {R : Room} {s : State} {m : MethodId} {args : Array Value} {below : List Frame} {meth : Method} {c : Code} {T : State} {locs : List Loc} {cells slots : Nat} (X : Stand p l e R s m args below meth c T locs cells slots) (hexec : p.tables.exec = Jvm.exec) {own C : String} {index : Nat} (hown : s.vm.findClass own = some m.cls) (hlink : (Cond.classLink own index C).before args s = true) {a : Addr} (hE : Exact C a T)
    {g : JFrame} (hg : g.method = m) {rest : List Value} (hstack : g.stack = .ref a :: rest) (hdg : decode c.code g.pc = .ok (.checkcast index, 3)) :
    ∃ T', Stand p l e R s m args below meth c T' locs cells slots ∧ T'.heap = T.heap ∧ ∀ target, Steps p.tables e below (T'.setTop { g with pc := g.pc + 3, stack := .ref a :: rest }) target → Steps p.tables e below (T.setTop g) target := by
  obtain ⟨cB, h1, D, h2, h3, h4⟩ := hE
  have h1' : s.vm.findClass C = some cB := by rw [← X.warmed.alike.findClass]; exact h1
  obtain ⟨vm', X', st⟩ := X.checkcastYes hexec hown hlink h2 h4 h1' (by rw [h3]; exact Jvm.Free.SB.assignable_self _ _) hg hstack hdg
  exact ⟨_, X', rfl, fun t h => st t (by rw [← hstack] at h; exact h)⟩
namespace SEq
def yN : MethodName := ⟨"java/lang/String", "equals", "(Ljava/lang/Object;)Z"⟩
abbrev yB : ByteArray := jdk_42_method_66_code
theorem d0 : decode yB 0 = .ok (.aload_n 0, 1) := by decide +kernel
theorem d1 : decode yB 1 = .ok (.aload_n 1, 1) := by decide +kernel
theorem d2 : decode yB 2 = .ok (.if_acmp (.ne) 5, 3) := by decide +kernel
theorem d5 : decode yB 5 = .ok (.iconst 1, 1) := by decide +kernel
theorem d6 : decode yB 6 = .ok (.ireturn, 1) := by decide +kernel
theorem d7 : decode yB 7 = .ok (.aload_n 1, 1) := by decide +kernel
theorem d8 : decode yB 8 = .ok (.instanceof 10, 3) := by decide +kernel
theorem d11 : decode yB 11 = .ok (.ifCond (.eq) 43, 3) := by decide +kernel
theorem d14 : decode yB 14 = .ok (.aload_n 1, 1) := by decide +kernel
theorem d15 : decode yB 15 = .ok (.checkcast 10, 3) := by decide +kernel
theorem d18 : decode yB 18 = .ok (.astore_n 2, 1) := by decide +kernel
theorem d19 : decode yB 19 = .ok (.getstatic 38, 3) := by decide +kernel
theorem d22 : decode yB 22 = .ok (.ifCond (.eq) 14, 3) := by decide +kernel
theorem d25 : decode yB 25 = .ok (.aload_n 0, 1) := by decide +kernel
theorem d26 : decode yB 26 = .ok (.getfield 15, 3) := by decide +kernel
theorem d29 : decode yB 29 = .ok (.aload_n 2, 1) := by decide +kernel
theorem d30 : decode yB 30 = .ok (.getfield 15, 3) := by decide +kernel
theorem d33 : decode yB 33 = .ok (.if_icmp (.ne) 21, 3) := by decide +kernel
theorem d36 : decode yB 36 = .ok (.aload_n 0, 1) := by decide +kernel
theorem d37 : decode yB 37 = .ok (.getfield 9, 3) := by decide +kernel
theorem d40 : decode yB 40 = .ok (.aload_n 2, 1) := by decide +kernel
theorem d41 : decode yB 41 = .ok (.getfield 9, 3) := by decide +kernel
theorem d44 : decode yB 44 = .ok (.invokestatic 541, 3) := by decide +kernel
theorem d47 : decode yB 47 = .ok (.ifCond (.eq) 7, 3) := by decide +kernel
theorem d50 : decode yB 50 = .ok (.iconst 1, 1) := by decide +kernel
theorem d51 : decode yB 51 = .ok (.goto 4, 3) := by decide +kernel
theorem d54 : decode yB 54 = .ok (.iconst 0, 1) := by decide +kernel
theorem d55 : decode yB 55 = .ok (.ireturn, 1) := by decide +kernel
def site : List Cond := [.classLink "java/lang/String" 10 "java/lang/String", .fieldLink "java/lang/String" 38 "java/lang/String" "COMPACT_STRINGS" "Z", .fieldLink "java/lang/String" 15 "java/lang/String" "coder" "B", .fieldLink "java/lang/String" 9 "java/lang/String" "value" "[B", LEq.tab] ++ staticW "java/lang/String" 541 LEq.yN
def tab : Cond := tabOf yN yB 3 (some .boolean) site
def P (x t : Addr) (V : Cell) (cd : Int32) (n : Nat) (f : Nat → Int32) (y t' : Addr) (V' : Cell) (cd' : Int32) (k : Nat) (g : Nat → Int32) (z : Int32) (args : Array Value) (s : State) : Prop := args = #[.ref x, .ref y] ∧ Txt x t V cd n f s ∧ Txt y t' V' cd' k g s ∧ StaticIs s "java/lang/String" "COMPACT_STRINGS" "Z" (.int z) ∧ ¬ z = 0
/-- equals(Object) of two Strings: whether the texts are the same -/
theorem law (l : Launch) (x t : Addr) (V : Cell) (cd : Int32) (n : Nat) (f : Nat → Int32) (y t' : Addr) (V' : Cell) (cd' : Int32) (k : Nat) (g : Nat → Int32) (z : Int32) : Law l yN 2 1 1 14 yB 3 (some .boolean) site (P x t V cd n f y t' V' cd' k g z) (Says01 (SameT n f k g)) [] 0 0 := by
  refine Law.of_walk (plainFor_of_name (by decide +kernel)) (by decide +kernel) (by decide +kernel) (by decide) (fun _ _ h => by rw [h.1]; rfl) (fun _ U U' hal hh h => ⟨h.1, h.2.1.mv hal hh, h.2.2.1.mv hal hh, h.2.2.2.1.there hal hh, h.2.2.2.2⟩) (fun r U U' V V' h1 hal h2 h => Says01.mv r U U' V V' h1 hal h2 h) ?_
  intro p e s m args below meth c s₁ X0 hexec hbytes hml hret hlk hnm hown hh0 W hP
  obtain ⟨rfl, hx, hy, s1, hz⟩ := hP
  have c1 : Steps p.tables e below (s₁.setTop (entryFrame m #[.ref x, .ref y] 3)) (s₁.setTop (mkF m 2 #[.val (.ref x), .val (.ref y), .unset] [.ref y, .ref x])) := Steps.trans (entry rfl) (by
    show Steps p.tables e below (s₁.setTop (mkF m 0 #[.val (.ref x), .val (.ref y), .unset] [])) _
    refine XS.aloadN X0.here hexec rfl (hb hbytes d0) rfl rfl ?_
    refine XS.aloadN X0.here hexec rfl (hb hbytes d1) rfl rfl ?_
    exact Steps.refl _)
  by_cases hxy : x = y
  · have c2 : Steps p.tables e below (s₁.setTop (entryFrame m #[.ref x, .ref y] 3)) (s₁.setTop (mkF m 6 #[.val (.ref x), .val (.ref y), .unset] [.int 1])) := c1.trans (by
      refine acmpNo X0.here hexec rfl (hb hbytes d2) rfl rfl rfl (by simp [acmp, hxy]) ?_
      refine iconstV X0.here hexec rfl 1 (hb hbytes d5) (by decide) ?_
      exact Steps.refl _)
    subst hxy
    have ec : cd = cd' := by
      obtain ⟨D, fd, a1, a2, a3⟩ := hx.2.2.1
      obtain ⟨D', fd', b1, b2, b3⟩ := hy.2.2.1
      cases a1.symm.trans b1
      obtain ⟨q1, q2, q3, q4⟩ := a2.1
      obtain ⟨r1, r2, r3, r4⟩ := b2.1
      cases q4.symm.trans r4
      cases a3.symm.trans b3; rfl
    have et : t = t' := by
      obtain ⟨D, fd, a1, a2, a3⟩ := hx.2.1
      obtain ⟨D', fd', b1, b2, b3⟩ := hy.2.1
      cases a1.symm.trans b1
      obtain ⟨q1, q2, q3, q4⟩ := a2.1
      obtain ⟨r1, r2, r3, r4⟩ := b2.1
      cases q4.symm.trans r4
      cases a3.symm.trans b3; rfl
    subst ec et
    have ev : V = V' := by cases hx.2.2.2.1.1.symm.trans hy.2.2.2.1.1; rfl
    subst ev
    have hs : SameT n f k g := (Cod.eqv hx.2.2.2.2.1 hy.2.2.2.2.1 hx.2.2.2.2.2 hy.2.2.2.2.2).mp ⟨rfl, fun _ _ => rfl⟩
    exact ⟨s₁, some (.int 1), _, _, _, X0, rfl, rfl, rfl, (fun h => by cases h), ⟨1, rfl, hh0, Or.inl ⟨rfl, hs⟩⟩, fun fs hl => c2.trans (X0.ireturnOut hexec hret rfl (Or.inr (Or.inl rfl)) (hb hbytes d6) hl)⟩
  · have c2 : Steps p.tables e below (s₁.setTop (entryFrame m #[.ref x, .ref y] 3)) (s₁.setTop (mkF m 8 #[.val (.ref x), .val (.ref y), .unset] [.ref y])) := c1.trans (by
      refine acmpYes X0.here hexec rfl (pc0 := 2) rfl (hb hbytes d2) rfl rfl rfl (by simp [acmp, hxy]) (by decide) rfl ?_
      refine XS.aloadN X0.here hexec rfl (hb hbytes d7) rfl rfl ?_
      exact Steps.refl _)
    obtain ⟨T3, X3, q3, st3⟩ := cinst X0 hexec hown (wk W (.classLink "java/lang/String" 10 "java/lang/String")) (hy.mv X0.warmed.alike hh0).1 (g := (mkF m 8 #[.val (.ref x), .val (.ref y), .unset] [.ref y])) rfl (rest := []) rfl (hb hbytes d8)
    have hh3 := q3.trans hh0
    have c4 : Steps p.tables e below (s₁.setTop (entryFrame m #[.ref x, .ref y] 3)) (T3.setTop (mkF m 15 #[.val (.ref x), .val (.ref y), .unset] [.ref y])) := (c2.trans (st3 _ (Steps.refl _))).trans (by
      refine XS.ifNo X3.here hexec rfl (hb hbytes d11) rfl (i0_eq_f (by decide)) ?_
      refine XS.aloadN X3.here hexec rfl (hb hbytes d14) rfl rfl ?_
      exact Steps.refl _)
    obtain ⟨T5, X5, q5, st5⟩ := cself X3 hexec hown (wk W (.classLink "java/lang/String" 10 "java/lang/String")) (hy.mv X3.warmed.alike hh3).1 (g := (mkF m 15 #[.val (.ref x), .val (.ref y), .unset] [.ref y])) rfl (rest := []) rfl (hb hbytes d15)
    have hh5 := q5.trans hh3
    have c6 : Steps p.tables e below (s₁.setTop (entryFrame m #[.ref x, .ref y] 3)) (T5.setTop (mkF m 19 #[.val (.ref x), .val (.ref y), .val (.ref y)] [])) := (c4.trans (st5 _ (Steps.refl _))).trans (by
      refine XS.astoreN X5.here hexec rfl (hb hbytes d18) rfl rfl rfl ?_
      exact Steps.refl _)
    obtain ⟨T7, X7, q7, st7⟩ := X5.sget hexec hown (wk W (.fieldLink "java/lang/String" 38 "java/lang/String" "COMPACT_STRINGS" "Z")) s1 (fun _ _ h => by rw [hh5]; exact h) (g := (mkF m 19 #[.val (.ref x), .val (.ref y), .val (.ref y)] [])) rfl (hb hbytes d19)
    have hh7 := q7.trans hh5
    have c8 : Steps p.tables e below (s₁.setTop (entryFrame m #[.ref x, .ref y] 3)) (T7.setTop (mkF m 26 #[.val (.ref x), .val (.ref y), .val (.ref y)] [.ref x])) := (c6.trans (st7 _ (Steps.refl _))).trans (by
      refine XS.ifNo X7.here hexec rfl (hb hbytes d22) rfl (i0_eq_f hz) ?_
      refine XS.aloadN X7.here hexec rfl (hb hbytes d25) rfl rfl ?_
      exact Steps.refl _)
    obtain ⟨T9, X9, q9, st9⟩ := X7.hget hexec hown (wk W (.fieldLink "java/lang/String" 15 "java/lang/String" "coder" "B")) (hx.mv X7.warmed.alike hh7).2.2.1 (g := (mkF m 26 #[.val (.ref x), .val (.ref y), .val (.ref y)] [.ref x])) rfl (rest := []) rfl (hb hbytes d26)
    have hh9 := q9.trans hh7
    have c10 : Steps p.tables e below (s₁.setTop (entryFrame m #[.ref x, .ref y] 3)) (T9.setTop (mkF m 30 #[.val (.ref x), .val (.ref y), .val (.ref y)] [.ref y, .int cd])) := (c8.trans (st9 _ (Steps.refl _))).trans (by
      refine XS.aloadN X9.here hexec rfl (hb hbytes d29) rfl rfl ?_
      exact Steps.refl _)
    obtain ⟨T11, X11, q11, st11⟩ := X9.hget hexec hown (wk W (.fieldLink "java/lang/String" 15 "java/lang/String" "coder" "B")) (hy.mv X9.warmed.alike hh9).2.2.1 (g := (mkF m 30 #[.val (.ref x), .val (.ref y), .val (.ref y)] [.ref y, .int cd])) rfl (rest := [.int cd]) rfl (hb hbytes d30)
    have hh11 := q11.trans hh9
    have c12 : Steps p.tables e below (s₁.setTop (entryFrame m #[.ref x, .ref y] 3)) (T11.setTop (mkF m 33 #[.val (.ref x), .val (.ref y), .val (.ref y)] [.int cd', .int cd])) := c10.trans (st11 _ (Steps.refl _))
    by_cases hcd : cd = cd'
    · subst hcd
      have c13 : Steps p.tables e below (s₁.setTop (entryFrame m #[.ref x, .ref y] 3)) (T11.setTop (mkF m 37 #[.val (.ref x), .val (.ref y), .val (.ref y)] [.ref x])) := c12.trans (by
        refine XS.icmpNo X11.here hexec rfl (hb hbytes d33) rfl (ii_ne_f rfl) ?_
        refine XS.aloadN X11.here hexec rfl (hb hbytes d36) rfl rfl ?_
        exact Steps.refl _)
      obtain ⟨T14, X14, q14, st14⟩ := X11.hget hexec hown (wk W (.fieldLink "java/lang/String" 9 "java/lang/String" "value" "[B")) (hx.mv X11.warmed.alike hh11).2.1 (g := (mkF m 37 #[.val (.ref x), .val (.ref y), .val (.ref y)] [.ref x])) rfl (rest := []) rfl (hb hbytes d37)
      have hh14 := q14.trans hh11
      have c15 : Steps p.tables e below (s₁.setTop (entryFrame m #[.ref x, .ref y] 3)) (T14.setTop (mkF m 41 #[.val (.ref x), .val (.ref y), .val (.ref y)] [.ref y, .ref t])) := (c13.trans (st14 _ (Steps.refl _))).trans (by
        refine XS.aloadN X14.here hexec rfl (hb hbytes d40) rfl rfl ?_
        exact Steps.refl _)
      obtain ⟨T16, X16, q16, st16⟩ := X14.hget hexec hown (wk W (.fieldLink "java/lang/String" 9 "java/lang/String" "value" "[B")) (hy.mv X14.warmed.alike hh14).2.1 (g := (mkF m 41 #[.val (.ref x), .val (.ref y), .val (.ref y)] [.ref y, .ref t])) rfl (rest := [.ref t]) rfl (hb hbytes d41)
      have hh16 := q16.trans hh14
      have c17 : Steps p.tables e below (s₁.setTop (entryFrame m #[.ref x, .ref y] 3)) (T16.setTop (mkF m 44 #[.val (.ref x), .val (.ref y), .val (.ref y)] [.ref t', .ref t])) := c15.trans (st16 _ (Steps.refl _))
      obtain ⟨v18, T18, X18, E18, g18⟩ := X16.callS hexec (LEq.law l t V t' V') hown (wks W (staticW "java/lang/String" 541 LEq.yN)) (wk W LEq.tab) (W := 0) (Nat.le_of_ble_eq_true rfl) (Nat.le_of_ble_eq_true rfl) (Nat.le_refl _) (Nat.le_refl _) (g := (mkF m 44 #[.val (.ref x), .val (.ref y), .val (.ref y)] [.ref t', .ref t])) rfl (by rw [hml]; rfl) c17 (argsL := [.ref t, .ref t']) (rest := []) rfl rfl (by show 2 * 0 + 0 ≤ _; decide) (hb hbytes d44) (⟨rfl, hx.2.2.2.1.mv X16.warmed.alike hh16, hx.2.2.2.2.1.ty, hy.2.2.2.1.mv X16.warmed.alike hh16, hy.2.2.2.2.1.ty⟩)
      obtain ⟨v, rfl, q18, hv⟩ := E18
      have iff := Cod.eqv hx.2.2.2.2.1 hy.2.2.2.2.1 hx.2.2.2.2.2 hy.2.2.2.2.2
      rcases hv with ⟨rfl, he⟩ | ⟨rfl, he⟩
      · have c19 : Steps p.tables e below (s₁.setTop (entryFrame m #[.ref x, .ref y] 3)) (T18.setTop (mkF m 55 #[.val (.ref x), .val (.ref y), .val (.ref y)] [.int 1])) := Steps.trans g18 (by
          refine XS.ifNo X18.here hexec rfl (hb hbytes d47) rfl (i0_eq_f (by decide)) ?_
          refine iconstV X18.here hexec rfl 1 (hb hbytes d50) (by decide) ?_
          refine XS.goto X18.here hexec rfl (pc0 := 51) rfl (hb hbytes d51) (by decide) rfl ?_
          exact Steps.refl _)
        exact ⟨T18, some (.int 1), _, _, _, X18, rfl, rfl, rfl, (fun h => by cases h), ⟨1, rfl, q18.trans hh16, Or.inl ⟨rfl, iff.mp he⟩⟩, fun fs hl => c19.trans (X18.ireturnOut hexec hret rfl (Or.inr (Or.inl rfl)) (hb hbytes d55) hl)⟩
      · have c19 : Steps p.tables e below (s₁.setTop (entryFrame m #[.ref x, .ref y] 3)) (T18.setTop (mkF m 55 #[.val (.ref x), .val (.ref y), .val (.ref y)] [.int 0])) := Steps.trans g18 (by
          refine XS.ifYes X18.here hexec rfl (pc0 := 47) rfl (hb hbytes d47) rfl (i0_eq_t rfl) (by decide) rfl ?_
          refine iconstV X18.here hexec rfl 0 (hb hbytes d54) (by decide) ?_
          exact Steps.refl _)
        exact ⟨T18, some (.int 0), _, _, _, X18, rfl, rfl, rfl, (fun h => by cases h), ⟨0, rfl, q18.trans hh16, Or.inr ⟨rfl, fun q => he (iff.mpr q)⟩⟩, fun fs hl => c19.trans (X18.ireturnOut hexec hret rfl (Or.inr (Or.inl rfl)) (hb hbytes d55) hl)⟩
    · have c13 : Steps p.tables e below (s₁.setTop (entryFrame m #[.ref x, .ref y] 3)) (T11.setTop (mkF m 55 #[.val (.ref x), .val (.ref y), .val (.ref y)] [.int 0])) := c12.trans (by
        refine XS.icmpYes X11.here hexec rfl (pc0 := 33) rfl (hb hbytes d33) rfl (ii_ne_t hcd) (by decide) rfl ?_
        refine iconstV X11.here hexec rfl 0 (hb hbytes d54) (by decide) ?_
        exact Steps.refl _)
      exact ⟨T11, some (.int 0), _, _, _, X11, rfl, rfl, rfl, (fun h => by cases h), ⟨0, rfl, hh11, Or.inr ⟨rfl, Cod.dif hx.2.2.2.2.1 hy.2.2.2.2.1 hcd⟩⟩, fun fs hl => c13.trans (X11.ireturnOut hexec hret rfl (Or.inr (Or.inl rfl)) (hb hbytes d55) hl)⟩
theorem pays {l : Launch} {R : Room} {p : Program} {e : Env} {below : List Frame} {s : State} {sargs : Array Value} {len W : Nat} (x t : Addr) (V : Cell) (cd : Int32) (n : Nat) (f : Nat → Int32) (y t' : Addr) (V' : Cell) (cd' : Int32) (k : Nat) (g : Nat → Int32) (z : Int32) (htab : tab.before sargs s = true) (hfr : 2 ≤ R.frames) (hlo : W + 28 ≤ R.locals) :
    Back l R p e below s sargs yN len W (fun A₁ a₁ => A₁.cells + 0 ≤ R.cells ∧ A₁.slots + 0 ≤ R.slots ∧ P x t V cd n f y t' V' cd' k g z a₁ A₁.U) (fun A₁ _ v₁ B₁ => Says01 (SameT n f k g) v₁ A₁.U B₁.U ∧ B₁.locs = A₁.locs ++ [] ∧ B₁.cells = A₁.cells + 0 ∧ B₁.slots = A₁.slots + 0) :=
  (law l x t V cd n f y t' V' cd' k g z).pays htab hfr (by omega)
end SEq
end StrChars
namespace StrChars.Road
open Jvm Sem ClassFile Op Lib Jvm.Stand Jvm.Free Jvm.Free.XT
open Jvm.Lib.Cold (StaticIs)
/-- the words of String.equals(Object) -/
abbrev wordsEq : List Jvm.Cond := [.code SEq.yN SEq.yB 3 (some .boolean), .initialized ST, .classLink ST 10 ST, .fieldLink ST 38 ST "COMPACT_STRINGS" "Z", .fieldLink ST 15 ST "coder" "B", .fieldLink ST 9 ST "value" "[B", .methodLink ST 541 LEq.yN, .static LEq.yN, .code LEq.yN LEq.yB 3 (some .boolean), .initialized "java/lang/StringLatin1"]
theorem tabEq_of {a : Array Value} {s : State} (h : ∀ w ∈ wordsEq, w.before a s = true) : SEq.tab.before a s = true := by
  have hl : LEq.tab.before a s = true := unparts (wk h (.code LEq.yN LEq.yB 3 (some .boolean))) (wks h (.initialized LEq.yN.cls :: LEq.site))
  have q := consq hl h
  exact unparts (wk q (.code SEq.yN SEq.yB 3 (some .boolean))) (wks q (.initialized SEq.yN.cls :: SEq.site))
theorem movedEq {Z s : State} {a0 args : Array Value} (hZ : Z.Warmed39 s.vm) (hw : ∀ d ∈ wordsEq, d.before a0 Z = true) : ∀ d ∈ wordsEq, d.before args s = true := fun d hd => by
  have t : ∀ d ∈ wordsEq, (d.onTables && d.keepsFace) = true := by decide +kernel
  exact RoadKit.mv hZ (hw d hd) (t d hd)
/-- the road's facts of a String, as the laws ask it -/
theorem txt_of {Z U : State} {a0 : Array Value} {kI : Nat} (wi : (Jvm.Cond.instantiable ST kI).before a0 Z = true) (al : Z.vm.Alike U.vm) {x t : Addr} {kb : ClassId} {cs : List Int32} {cd N2 : Int32} {vs : List Value} (E : RoadKit.Exa Z U.heap x ST) (V : RoadKit.Fld Z U.heap x ST "value" "[B" (.ref t)) (C : RoadKit.Fld Z U.heap x ST "coder" "B" (.int cd)) (K : RoadKit.Arv Z U.heap t kb .byte N2 vs (.int 0)) (hc : CodA cs cd N2 vs) (hb : ∀ c ∈ cs, ¬ c < 0 ∧ ¬ (65535 : Int32) < c) (l2 : cs.length ≤ 4000) :
    ∃ A, Txt x t A cd cs.length (fun j => cs.getD j 0) U := by
  obtain ⟨A, K1, K2, K3, K4, K5, K6⟩ := K
  have hcod := hc.cod (by omega) K3 K5
  obtain ⟨D, fV, fC, hB, F1, F2, g1, g2, -, -⟩ := strObj wi al E V C
  exact ⟨A, ⟨_, hB.2.2.1, D, hB.1, rfl, by cases q : D.vm <;> first | rfl | exact absurd q (hB.2.1.2 _)⟩, Has.of hB F1 g1, Has.of hB F2 g2, ⟨K1.1, State.isArrayOf_alike al K1.2.1, K1.2.2, by rcases hcod with ⟨-, q, -⟩ | ⟨-, q, -⟩ <;> omega⟩, hcod, fun j hj => by
    have e : cs.getD j 0 = cs[j] := by simp [List.getD_eq_getElem?_getD, hj]
    show ¬ cs.getD j 0 < 0 ∧ ¬ 65535 < cs.getD j 0
    rw [e]; exact hb _ (List.getElem_mem _)⟩
theorem same_list (cs ds : List Int32) : SameT cs.length (fun j => cs.getD j 0) ds.length (fun j => ds.getD j 0) ↔ cs = ds := by
  constructor
  · rintro ⟨e, q⟩
    refine List.ext_getElem e fun j h1 h2 => ?_
    have := q j h1
    simpa [List.getD_eq_getElem?_getD, h1, h2] using this
  · rintro rfl
    exact ⟨rfl, fun _ _ => rfl⟩
/-- **equals(Object) OF TWO SUCH STRINGS**: 1 just where the chars are the same -/
theorem eqW {p : Program} {l : Launch} {e : Env} {R : Room} {s : State} {args : Array Value} {below : List Frame} {len W : Nat} {Z : State} {a0 : Array Value} {h : Heap} (hZ : Z.Warmed39 s.vm) (hw : ∀ d ∈ wordsEq, d.before a0 Z = true) {kI : Nat} (wi : (Jvm.Cond.instantiable ST kI).before a0 Z = true)
    {x t : Addr} {kb : ClassId} {cs : List Int32} {cd N2 : Int32} {vs : List Value} (E : RoadKit.Exa Z h x ST) (V : RoadKit.Fld Z h x ST "value" "[B" (.ref t)) (C : RoadKit.Fld Z h x ST "coder" "B" (.int cd)) (K : RoadKit.Arv Z h t kb .byte N2 vs (.int 0)) (hc : CodA cs cd N2 vs) (hb : ∀ c ∈ cs, ¬ c < 0 ∧ ¬ (65535 : Int32) < c) (l2 : cs.length ≤ 4000)
    {y t' : Addr} {kb' : ClassId} {ds : List Int32} {cd' N2' : Int32} {vs' : List Value} (E' : RoadKit.Exa Z h y ST) (V' : RoadKit.Fld Z h y ST "value" "[B" (.ref t')) (C' : RoadKit.Fld Z h y ST "coder" "B" (.int cd')) (K' : RoadKit.Arv Z h t' kb' .byte N2' vs' (.int 0)) (hc' : CodA ds cd' N2' vs') (hb' : ∀ c ∈ ds, ¬ c < 0 ∧ ¬ (65535 : Int32) < c) (l2' : ds.length ≤ 4000)
    {z : Int32} (S : RoadKit.Sta Z h ST "COMPACT_STRINGS" "Z" (.int z)) (hz : ¬ z = 0) (hfr : 2 ≤ R.frames) (hlo : W + 28 ≤ R.locals) :
    Back l R p e below s args (⟨"java/lang/String", "equals", "(Ljava/lang/Object;)Z"⟩ : MethodName) len W (fun P a => a = #[.ref x, .ref y] ∧ P.U.heap = h ∧ P.cells + 0 ≤ R.cells ∧ P.slots + 0 ≤ R.slots)
      (fun P _ v B => ∃ L, (((v = some (.int 1) ∧ cs = ds) ∨ (v = some (.int 0) ∧ ¬ cs = ds)) ∧ L = [] ∧ B.U.heap = h) ∧ B.locs = P.locs ++ L ∧ B.cells = P.cells + 0 ∧ B.slots = P.slots + 0) := by
  intro m meth c P g ig mk a X hg hsize hdg hW hn hp'
  obtain ⟨rfl, rfl, r1, r2⟩ := hp'
  have al : Z.vm.Alike P.U.vm := hZ.alike.trans X.warmed.alike
  obtain ⟨A, hx⟩ := txt_of wi al E V C K hc hb l2
  obtain ⟨A', hy⟩ := txt_of wi al E' V' C' K' hc' hb' l2'
  obtain ⟨v, B, X', ⟨⟨w, hv, hh, hq⟩, hl, hk, hs⟩, st⟩ := SEq.pays x t A cd cs.length (fun j => cs.getD j 0) y t' A' cd' ds.length (fun j => ds.getD j 0) z (tabEq_of (movedEq hZ hw)) hfr hlo m meth c P g ig mk _ X hg hsize hdg hW hn ⟨r1, r2, rfl, hx, hy, sta_is al S, hz⟩
  refine ⟨v, B, X', ⟨[], ⟨?_, rfl, hh⟩, hl, hk, hs⟩, st⟩
  rcases hq with ⟨rfl, q⟩ | ⟨rfl, q⟩
  · exact Or.inl ⟨hv, (same_list cs ds).mp q⟩
  · exact Or.inr ⟨hv, fun e => q ((same_list cs ds).mpr e)⟩
end StrChars.Road
end Jvm.Pilot.@@N@@
namespace Jvm.Pilot.@@N@@
open Jvm Jvm.ClassFile Sem Op Lib Jvm.Free Jvm.Stand Jvm.LawKit Jvm.RoadKit Bundle Jvm.Pilot.@@N@@.Jvm.D
section OwnPre
def Gl (tb : Tables) (e : Env) (below : List Frame) (P : State → Outcome → Prop) (T : State) (m : MethodId) (pc : Nat) (L : Array Slot) (S : List Value) : Prop := ∃ s₂ o, Steps tb e below (T.setTop (mkF m pc L S)) s₂ ∧ P s₂ o
def Wk (p : Program) (l : Launch) (e : Env) (R : Room) (s : State) (m : MethodId) (args : Array Value) (below : List Frame) (meth : Method) (c : Code) (own : String) (Z : State) (hb : Heap) (ws : List Addr) (I : Heap → Prop) (T : State) (h : Heap) (locs : List Loc) (cells slots : Nat) : Prop :=
  Stand p l e R s m args below meth c T locs cells slots ∧ p.tables.exec = Jvm.exec ∧ T.heap = h ∧ Z.Warmed39 s.vm ∧ s.vm.findClass own = some m.cls ∧ Old Z Z.heap.size h ∧ Fr Z.heap.size locs ∧ Keep hb h ws ∧ I h
variable {p : Program} {l : Launch} {e : Env} {R : Room} {s : State} {m : MethodId} {args : Array Value} {below : List Frame} {meth : Method} {c : Code} {T : State} {locs : List Loc} {cells slots cells' slots' : Nat} {Z : State} {a0 : Array Value} {h hb : Heap} {ws : List Addr} {own : String} {I : Heap → Prop} {P : State → Outcome → Prop} {pc pc' : Nat} {L L' : Array Slot} {S : List Value}
theorem Gl.st {tb : Tables} {T T' : State} {S' : List Value} (k : ∀ target, Steps tb e below (T'.setTop (mkF m pc' L' S')) target → Steps tb e below (T.setTop (mkF m pc L S)) target) (G : Gl tb e below P T' m pc' L' S') : Gl tb e below P T m pc L S := by
  obtain ⟨s2, o, h1, h2⟩ := G
  exact ⟨s2, o, k _ h1, h2⟩
theorem Gl.tr {tb : Tables} {T T' : State} {S' : List Value} (k : Steps tb e below (T.setTop (mkF m pc L S)) (T'.setTop (mkF m pc' L' S'))) (G : Gl tb e below P T' m pc' L' S') : Gl tb e below P T m pc L S := by
  obtain ⟨s2, o, h1, h2⟩ := G
  exact ⟨s2, o, k.trans h1, h2⟩
theorem Wk.ox (W : Wk p l e R s m args below meth c own Z hb ws I T h locs cells slots) : Ext Z.heap h := W.2.2.2.2.2.1.2
theorem Wk.old (W : Wk p l e R s m args below meth c own Z hb ws I T h locs cells slots) : Old Z Z.heap.size h := W.2.2.2.2.2.1
theorem Wk.keep (W : Wk p l e R s m args below meth c own Z hb ws I T h locs cells slots) : Keep hb h ws := W.2.2.2.2.2.2.2.1
theorem Wk.zs (W : Wk p l e R s m args below meth c own Z hb ws I T h locs cells slots) : Z.heap.size ≤ h.size := W.ox.1
theorem own_ne {x b n : Nat} (h1 : x < n) (h2 : n ≤ b) : x ≠ b := Nat.ne_of_lt (Nat.lt_of_lt_of_le h1 h2)
theorem o_iloadN (W : Wk p l e R s m args below meth c own Z hb ws I T h locs cells slots) {k : Fin 4} {v : Int32} (hd : decode c.code pc = .ok (.iload_n k, 1)) (hl : L[k.val]? = some (.val (.int v))) (hp : pc + 1 = pc') (K : Gl p.tables e below P T m pc' L (.int v :: S)) : Gl p.tables e below P T m pc L S := by
  subst hp; exact Gl.st (fun _ q => XS.iloadN W.1.here W.2.1 rfl hd hl q) K
theorem o_iload (W : Wk p l e R s m args below meth c own Z hb ws I T h locs cells slots) {k : Nat} {v : Int32} (hd : decode c.code pc = .ok (.iload k, 2)) (hl : L[k]? = some (.val (.int v))) (hp : pc + 2 = pc') (K : Gl p.tables e below P T m pc' L (.int v :: S)) : Gl p.tables e below P T m pc L S := by
  subst hp; exact Gl.st (fun _ q => XS.iload W.1.here W.2.1 rfl hd hl q) K
theorem o_istoreN (W : Wk p l e R s m args below meth c own Z hb ws I T h locs cells slots) {k : Fin 4} {v : Int32} {L' : Array Slot} (hd : decode c.code pc = .ok (.istore_n k, 1)) (hl : storeLocals L k.val (.int v) = some L') (hp : pc + 1 = pc') (K : Gl p.tables e below P T m pc' L' S) : Gl p.tables e below P T m pc L (.int v :: S) := by
  subst hp; exact Gl.st (fun _ q => XS.istoreN W.1.here W.2.1 rfl hd rfl hl q) K
theorem o_istore (W : Wk p l e R s m args below meth c own Z hb ws I T h locs cells slots) {k : Nat} {v : Int32} {L' : Array Slot} (hd : decode c.code pc = .ok (.istore k, 2)) (hl : storeLocals L k (.int v) = some L') (hp : pc + 2 = pc') (K : Gl p.tables e below P T m pc' L' S) : Gl p.tables e below P T m pc L (.int v :: S) := by
  subst hp; exact Gl.st (fun _ q => XS.istore W.1.here W.2.1 rfl hd rfl hl q) K
theorem o_aloadN (W : Wk p l e R s m args below meth c own Z hb ws I T h locs cells slots) {k : Fin 4} {v : Value} (hd : decode c.code pc = .ok (.aload_n k, 1)) (hl : L[k.val]? = some (.val v)) (hv : v.isRef = true) (hp : pc + 1 = pc') (K : Gl p.tables e below P T m pc' L (v :: S)) : Gl p.tables e below P T m pc L S := by
  subst hp; exact Gl.st (fun _ q => XS.aloadN W.1.here W.2.1 rfl hd hl hv q) K
theorem o_aload (W : Wk p l e R s m args below meth c own Z hb ws I T h locs cells slots) {k : Nat} {v : Value} (hd : decode c.code pc = .ok (.aload k, 2)) (hl : L[k]? = some (.val v)) (hv : v.isRef = true) (hp : pc + 2 = pc') (K : Gl p.tables e below P T m pc' L (v :: S)) : Gl p.tables e below P T m pc L S := by
  subst hp; exact Gl.st (fun _ q => XS.aload W.1.here W.2.1 rfl hd hl hv q) K
theorem o_astoreN (W : Wk p l e R s m args below meth c own Z hb ws I T h locs cells slots) {k : Fin 4} {v : Value} {L' : Array Slot} (hd : decode c.code pc = .ok (.astore_n k, 1)) (hv : v.isRef = true) (hl : storeLocals L k.val v = some L') (hp : pc + 1 = pc') (K : Gl p.tables e below P T m pc' L' S) : Gl p.tables e below P T m pc L (v :: S) := by
  subst hp; exact Gl.st (fun _ q => XS.astoreN W.1.here W.2.1 rfl hd rfl hv hl q) K
theorem o_astore (W : Wk p l e R s m args below meth c own Z hb ws I T h locs cells slots) {k : Nat} {v : Value} {L' : Array Slot} (hd : decode c.code pc = .ok (.astore k, 2)) (hv : v.isRef = true) (hl : storeLocals L k v = some L') (hp : pc + 2 = pc') (K : Gl p.tables e below P T m pc' L' S) : Gl p.tables e below P T m pc L (v :: S) := by
  subst hp; exact Gl.st (fun _ q => XS.astore W.1.here W.2.1 rfl hd rfl hv hl q) K
theorem o_iconst (W : Wk p l e R s m args below meth c own Z hb ws I T h locs cells slots) {i : Int} {v : Int32} (hd : decode c.code pc = .ok (.iconst i, 1)) (hv : Int32.ofInt i = v) (hp : pc + 1 = pc') (K : Gl p.tables e below P T m pc' L (.int v :: S)) : Gl p.tables e below P T m pc L S := by
  subst hp; exact Gl.st (fun _ q => XT.iconstV W.1.here W.2.1 rfl v hd hv q) K
theorem o_bipush (W : Wk p l e R s m args below meth c own Z hb ws I T h locs cells slots) {i : Int} {v : Int32} (hd : decode c.code pc = .ok (.bipush i, 2)) (hv : (Int8.ofInt i).toInt32 = v) (hp : pc + 2 = pc') (K : Gl p.tables e below P T m pc' L (.int v :: S)) : Gl p.tables e below P T m pc L S := by
  subst hp; exact Gl.st (fun _ q => XT.bipushV W.1.here W.2.1 rfl v hd hv q) K
theorem o_sipush (W : Wk p l e R s m args below meth c own Z hb ws I T h locs cells slots) {i : Int} {v : Int32} (hd : decode c.code pc = .ok (.sipush i, 3)) (hv : (Int16.ofInt i).toInt32 = v) (hp : pc + 3 = pc') (K : Gl p.tables e below P T m pc' L (.int v :: S)) : Gl p.tables e below P T m pc L S := by
  subst hp; exact Gl.st (fun _ q => XT.sipushV W.1.here W.2.1 rfl v hd hv q) K
theorem o_isub (W : Wk p l e R s m args below meth c own Z hb ws I T h locs cells slots) {x y v : Int32} (hd : decode c.code pc = .ok (.isub, 1)) (hv : x - y = v) (hp : pc + 1 = pc') (K : Gl p.tables e below P T m pc' L (.int v :: S)) : Gl p.tables e below P T m pc L (.int y :: .int x :: S) := by
  subst hp; exact Gl.st (fun _ q => XS.isub W.1.here W.2.1 rfl hd rfl (by rw [hv]; exact q)) K
theorem o_iand (W : Wk p l e R s m args below meth c own Z hb ws I T h locs cells slots) {x y v : Int32} (hd : decode c.code pc = .ok (.iand, 1)) (hv : x &&& y = v) (hp : pc + 1 = pc') (K : Gl p.tables e below P T m pc' L (.int v :: S)) : Gl p.tables e below P T m pc L (.int y :: .int x :: S) := by
  subst hp; exact Gl.st (fun _ q => XS.iand W.1.here W.2.1 rfl hd rfl (by rw [hv]; exact q)) K
theorem o_iushr (W : Wk p l e R s m args below meth c own Z hb ws I T h locs cells slots) {x v : Int32} {y : Int32} (hd : decode c.code pc = .ok (.iushr, 1)) (hv : (x.toUInt32 >>> (y &&& 31).toUInt32).toInt32 = v) (hp : pc + 1 = pc') (K : Gl p.tables e below P T m pc' L (.int v :: S)) : Gl p.tables e below P T m pc L (.int y :: .int x :: S) := by
  subst hp; exact Gl.st (fun _ q => XS.iushr W.1.here W.2.1 rfl hd rfl (by rw [hv]; exact q)) K
theorem o_i2c (W : Wk p l e R s m args below meth c own Z hb ws I T h locs cells slots) {x : Int32} {v : Int32} (hd : decode c.code pc = .ok (.i2c, 1)) (hv : x.toUInt32.toUInt16.toUInt32.toInt32 = v) (hp : pc + 1 = pc') (K : Gl p.tables e below P T m pc' L (.int v :: S)) : Gl p.tables e below P T m pc L (.int x :: S) := by
  subst hp; exact Gl.st (fun _ q => XS.i2c W.1.here W.2.1 rfl hd rfl (by rw [hv]; exact q)) K
theorem o_irem (W : Wk p l e R s m args below meth c own Z hb ws I T h locs cells slots) {x y v : Int32} (hd : decode c.code pc = .ok (.irem, 1)) (hy : y ≠ 0) (hv : x % y = v) (hp : pc + 1 = pc') (K : Gl p.tables e below P T m pc' L (.int v :: S)) : Gl p.tables e below P T m pc L (.int y :: .int x :: S) := by
  subst hp; exact Gl.st (fun _ q => iremM W.1 W.2.1 rfl hd rfl hy (by rw [hv]; exact q)) K
theorem o_iinc (W : Wk p l e R s m args below meth c own Z hb ws I T h locs cells slots) {k : Nat} {i : Int} {x v : Int32} {L' : Array Slot} (hd : decode c.code pc = .ok (.iinc k i, 3)) (hl : L[k]? = some (.val (.int x))) (hv : x + Int32.ofInt i = v) (hl' : storeLocals L k (.int v) = some L') (hp : pc + 3 = pc') (K : Gl p.tables e below P T m pc' L' S) : Gl p.tables e below P T m pc L S := by
  subst hp; exact Gl.st (fun _ q => XS.iinc W.1.here W.2.1 rfl hd hl (by rw [hv]; exact hl') q) K
theorem o_dup (W : Wk p l e R s m args below meth c own Z hb ws I T h locs cells slots) {x : Value} (hd : decode c.code pc = .ok (.dup, 1)) (hc : x.category = 1) (hp : pc + 1 = pc') (K : Gl p.tables e below P T m pc' L (x :: x :: S)) : Gl p.tables e below P T m pc L (x :: S) := by
  subst hp; exact Gl.st (fun _ q => XS.dup W.1.here W.2.1 rfl hd rfl hc q) K
theorem o_goto (W : Wk p l e R s m args below meth c own Z hb ws I T h locs cells slots) {o : Int} (hd : decode c.code pc = .ok (.goto o, 3)) (ho : 0 ≤ (pc : Int) + o) (hp : ((pc : Int) + o).toNat = pc') (K : Gl p.tables e below P T m pc' L S) : Gl p.tables e below P T m pc L S := by
  exact Gl.st (fun _ q => XS.goto W.1.here W.2.1 rfl (pc0 := pc) rfl hd ho hp q) K
theorem o_ifY (W : Wk p l e R s m args below meth c own Z hb ws I T h locs cells slots) {o : Int} {cd : ClassFile.Cond} {x : Int32} (hd : decode c.code pc = .ok (.ifCond cd o, 3)) (hc : ifCond.holds cd x = true) (ho : 0 ≤ (pc : Int) + o) (hp : ((pc : Int) + o).toNat = pc') (K : Gl p.tables e below P T m pc' L S) : Gl p.tables e below P T m pc L (.int x :: S) := by
  exact Gl.st (fun _ q => XS.ifYes W.1.here W.2.1 rfl (pc0 := pc) rfl hd rfl hc ho hp q) K
theorem o_ifN (W : Wk p l e R s m args below meth c own Z hb ws I T h locs cells slots) {o : Int} {cd : ClassFile.Cond} {x : Int32} (hd : decode c.code pc = .ok (.ifCond cd o, 3)) (hc : ifCond.holds cd x = false) (hp : pc + 3 = pc') (K : Gl p.tables e below P T m pc' L S) : Gl p.tables e below P T m pc L (.int x :: S) := by
  subst hp; exact Gl.st (fun _ q => XS.ifNo W.1.here W.2.1 rfl hd rfl hc q) K
theorem o_icmpY (W : Wk p l e R s m args below meth c own Z hb ws I T h locs cells slots) {o : Int} {cd : ClassFile.Cond} {x y : Int32} (hd : decode c.code pc = .ok (.if_icmp cd o, 3)) (hc : if_icmp.holds cd x y = true) (ho : 0 ≤ (pc : Int) + o) (hp : ((pc : Int) + o).toNat = pc') (K : Gl p.tables e below P T m pc' L S) : Gl p.tables e below P T m pc L (.int y :: .int x :: S) := by
  exact Gl.st (fun _ q => XS.icmpYes W.1.here W.2.1 rfl (pc0 := pc) rfl hd rfl hc ho hp q) K
theorem o_icmpN (W : Wk p l e R s m args below meth c own Z hb ws I T h locs cells slots) {o : Int} {cd : ClassFile.Cond} {x y : Int32} (hd : decode c.code pc = .ok (.if_icmp cd o, 3)) (hc : if_icmp.holds cd x y = false) (hp : pc + 3 = pc') (K : Gl p.tables e below P T m pc' L S) : Gl p.tables e below P T m pc L (.int y :: .int x :: S) := by
  subst hp; exact Gl.st (fun _ q => XS.icmpNo W.1.here W.2.1 rfl hd rfl hc q) K
theorem o_acmpY (W : Wk p l e R s m args below meth c own Z hb ws I T h locs cells slots) {o : Int} {cd : ClassFile.ACond} {x y : Value} (hd : decode c.code pc = .ok (.if_acmp cd o, 3)) (h1 : x.isRef = true) (h2 : y.isRef = true) (hc : XT.acmp cd x y = true) (ho : 0 ≤ (pc : Int) + o) (hp : ((pc : Int) + o).toNat = pc') (K : Gl p.tables e below P T m pc' L S) : Gl p.tables e below P T m pc L (y :: x :: S) := by
  exact Gl.st (fun _ q => XT.acmpYes W.1.here W.2.1 rfl (pc0 := pc) rfl hd rfl h1 h2 hc ho hp q) K
theorem o_acmpN (W : Wk p l e R s m args below meth c own Z hb ws I T h locs cells slots) {o : Int} {cd : ClassFile.ACond} {x y : Value} (hd : decode c.code pc = .ok (.if_acmp cd o, 3)) (h1 : x.isRef = true) (h2 : y.isRef = true) (hc : XT.acmp cd x y = false) (hp : pc + 3 = pc') (K : Gl p.tables e below P T m pc' L S) : Gl p.tables e below P T m pc L (y :: x :: S) := by
  subst hp; exact Gl.st (fun _ q => XT.acmpNo W.1.here W.2.1 rfl hd rfl h1 h2 hc q) K
theorem o_getF (W : Wk p l e R s m args below meth c own Z hb ws I T h locs cells slots) {R0 O n d : String} {index : Nat} (w : (Cond.fieldLink own index R0 n d).before a0 Z = true) (via : Via Z R0 O n d) {a : Addr} {v : Value} (F : Fld Z h a O n d v) (hd : decode c.code pc = .ok (.getfield index, 3)) (hp : pc + 3 = pc')
    (K : ∀ T', Wk p l e R s m args below meth c own Z hb ws I T' h locs cells slots → Gl p.tables e below P T' m pc' L (v :: S)) : Gl p.tables e below P T m pc L (.ref a :: S) := by
  subst hp
  obtain ⟨X, hx, eT, hZ, ho, r⟩ := W
  obtain ⟨T', X', e', st⟩ := getF X hx hZ ho (host := "") (Or.inl w) via eT F (g := mkF m pc L (.ref a :: S)) rfl rfl hd
  exact Gl.st st (K T' ⟨X', hx, e', hZ, ho, r⟩)
theorem o_getS (W : Wk p l e R s m args below meth c own Z hb ws I T h locs cells slots) {R0 O n d : String} {index : Nat} (w : (Cond.fieldLink own index R0 n d).before a0 Z = true) (via : Via Z R0 O n d) {v : Value} (F : Sta Z h O n d v) (hd : decode c.code pc = .ok (.getstatic index, 3)) (hp : pc + 3 = pc')
    (K : ∀ T', Wk p l e R s m args below meth c own Z hb ws I T' h locs cells slots → Gl p.tables e below P T' m pc' L (v :: S)) : Gl p.tables e below P T m pc L S := by
  subst hp
  obtain ⟨X, hx, eT, hZ, ho, r⟩ := W
  obtain ⟨T', X', e', st⟩ := getS (host := "") X hx hZ ho w via eT F (g := mkF m pc L S) rfl hd
  exact Gl.st st (K T' ⟨X', hx, e', hZ, ho, r⟩)
theorem o_putF (W : Wk p l e R s m args below meth c own Z hb ws I T h locs cells slots) {R0 O n d C : String} {index kk : Nat} {ty : FieldType} (w : (Cond.fieldLink own index R0 n d).before a0 Z = true) (via : Via Z R0 O n d) {a : Addr} {v v' old : Value} (F : Fld Z h a O n d old) (E : Exa Z h a C)
    (Lz : (Cond.lays C O n d).before a0 Z = true ∨ ((Cond.laysFinal C O n d).before a0 Z = true ∧ own = O ∧ meth.name = "<init>")) (wi : (Cond.instantiable C kk).before a0 Z = true) (hty : parseFieldDescriptor d = some ty) (hn : narrow ty v = v') (hf : fits ty v' = true)
    (g1 : Z.heap.size ≤ a) (g2 : a ∈ ws ∨ hb.size ≤ a) (hI : ∀ h', Wr h h' a (Jvm.RoadKit.slotOf Z O n d) v' → I h') (hd : decode c.code pc = .ok (.putfield index, 3)) (hp : pc + 3 = pc')
    (K : ∀ T' h' locs', Wk p l e R s m args below meth c own Z hb ws I T' h' locs' cells slots → Wr h h' a (Jvm.RoadKit.slotOf Z O n d) v' → Gl p.tables e below P T' m pc' L S) : Gl p.tables e below P T m pc L (v :: .ref a :: S) := by
  subst hp
  obtain ⟨X, hx, eT, hZ, ho, o, fr, kp, i⟩ := W
  obtain ⟨T', h', X', e', Wr', st⟩ := putFN X hx hZ ho w via eT F E Lz wi hty hn hf (g := mkF m pc L (v :: .ref a :: S)) rfl rfl hd
  exact Gl.st st (K T' h' _ ⟨X', hx, e', hZ, ho, o.wr Wr' g1, Fr.snoc X' fr g1, kp.wr Wr' g2, hI _ Wr'⟩ Wr')
theorem o_new (W : Wk p l e R s m args below meth c own Z hb ws I T h locs cells slots) {C : String} {index n : Nat} (w : (Cond.classLink own index C).before a0 Z = true) (wi : (Cond.instantiable C n).before a0 Z = true) (wz : (Cond.initialized C).before a0 Z = true) (hI : ∀ h', Ext h h' → I h')
    (hd : decode c.code pc = .ok (.new index, 3)) (hp : pc + 3 = pc') (hc' : cells + 1 = cells') (hs' : slots + n = slots') (hc : cells' ≤ R.cells) (hs : slots' ≤ R.slots)
    (K : ∀ b T' h', Wk p l e R s m args below meth c own Z hb ws I T' h' locs cells' slots' → Ext h h' → h.size ≤ b → Z.heap.size ≤ b → hb.size ≤ b → Exa Z h' b C → (∀ {O nm d : String} {ty : FieldType}, Laid Z a0 C O nm d → parseFieldDescriptor d = some ty → Fld Z h' b O nm d (defaultValue ty)) → Gl p.tables e below P T' m pc' L (.ref b :: S)) : Gl p.tables e below P T m pc L S := by
  subst hp hc' hs'
  obtain ⟨X, hx, eT, hZ, ho, o, fr, kp, i⟩ := W
  obtain ⟨T', h', X', e', E, A, D, -, st⟩ := newO X hx hZ ho w wi wz eT (g := mkF m pc L S) rfl hd hc hs
  exact Gl.st st (K _ T' h' ⟨X', hx, e', hZ, ho, o.ext E, fr, kp.ext E, hI _ E⟩ E (Nat.le_refl _) o.2.1 kp.1 A D)
theorem o_newP (W : Wk p l e R s m args below meth c own Z hb ws I T h locs cells slots) {aty : ArrayType} (w : (Cond.arrayClass (newarray.typeOf aty)).before a0 Z = true) (hI : ∀ h', Ext h h' → I h') {n : Int32} (hn : ¬ n < 0) {cap : Nat} (hcap : n.toNatClampNeg ≤ cap) (hb8 : cap * 8 ≤ 536870912)
    (hd : decode c.code pc = .ok (.newarray aty, 2)) (hp : pc + 2 = pc') (hc' : cells + 1 = cells') (hs' : slots + cap = slots') (hc : cells' ≤ R.cells) (hs : slots' ≤ R.slots) {vs : List Value} {dv : Value} (hdv : defaultValue (newarray.typeOf aty) = dv) (hv : vs = List.replicate vs.length dv)
    (K : ∀ b T' h' k, Wk p l e R s m args below meth c own Z hb ws I T' h' locs cells' slots' → Ext h h' → h.size ≤ b → Z.heap.size ≤ b → hb.size ≤ b → Arv Z h' b k (newarray.typeOf aty) n vs dv → Gl p.tables e below P T' m pc' L (.ref b :: S)) : Gl p.tables e below P T m pc L (.int n :: S) := by
  subst hp hc' hs' hdv
  obtain ⟨X, hx, eT, hZ, ho, o, fr, kp, i⟩ := W
  obtain ⟨T', h', k, X', e', E, A, st⟩ := newP X hx hZ w eT (g := mkF m pc L (.int n :: S)) rfl hd rfl hn hcap hb8 hc hs
  exact Gl.st st (K _ T' h' k ⟨X', hx, e', hZ, ho, o.ext E, fr, kp.ext E, hI _ E⟩ E (Nat.le_refl _) o.2.1 kp.1 ((Arv.new A hn).pad (by rw [hv]; exact pad_rep [] _ _)))
theorem o_len (W : Wk p l e R s m args below meth c own Z hb ws I T h locs cells slots) {a : Addr} {k : ClassId} {ty : FieldType} {z : Int32} {vs : List Value} {dv : Value} (V : Arv Z h a k ty z vs dv) (hd : decode c.code pc = .ok (.arraylength, 1)) (hp : pc + 1 = pc')
    (K : Gl p.tables e below P T m pc' L (.int z :: S)) : Gl p.tables e below P T m pc L (.ref a :: S) := by
  subst hp
  obtain ⟨X, hx, eT, hZ, ho, r⟩ := W
  obtain ⟨cl, A, -, Sz, N, -⟩ := V
  refine Gl.st (X.arraylength hx (by rw [eT]; exact A.1) (State.isArrayOf_alike hZ.alike A.2.1) (g := mkF m pc L (.ref a :: S)) rfl rfl hd) ?_
  rw [len_of Sz N]; exact K
theorem own_inb {z j : Int32} {c : Cell} {i : Nat} (Sz : c.slots.size = z.toNatClampNeg) (hj : j.toNatClampNeg = i) (hj0 : ¬ j < 0) (hi : i < z.toNatClampNeg) : ¬ (j < 0 ∨ c.slots.size ≤ j.toNatClampNeg) := by
  rintro (q | q)
  · exact hj0 q
  · rw [Sz, hj] at q; omega
theorem o_stC (W : Wk p l e R s m args below meth c own Z hb ws I T h locs cells slots) {a : Addr} {k : ClassId} {z : Int32} {vs vs' : List Value} {dv : Value} (V : Arv Z h a k .char z vs dv) {j x x' : Int32} {i : Nat} (hj : j.toNatClampNeg = i) (hj0 : ¬ j < 0) (hi : i < z.toNatClampNeg) (hi' : i < vs.length) (hx' : nar .char x = x') (hv : vs.set i (.int x') = vs')
    (g1 : Z.heap.size ≤ a) (g2 : a ∈ ws ∨ hb.size ≤ a) (hI : ∀ h', Wr h h' a i (.int x') → I h') (hd : decode c.code pc = .ok (.castore, 1)) (hp : pc + 1 = pc')
    (K : ∀ T' h' locs', Wk p l e R s m args below meth c own Z hb ws I T' h' locs' cells slots → Wr h h' a i (.int x') → Arv Z h' a k .char z vs' dv → Gl p.tables e below P T' m pc' L S) : Gl p.tables e below P T m pc L (.int x :: .int j :: .ref a :: S) := by
  subst hp hx' hv
  obtain ⟨X, hx, eT, hZ, ho, o, fr, kp, i'⟩ := W
  obtain ⟨cl, A, q, Sz, N, H, G⟩ := V
  obtain ⟨T', h', X', e', Wr', st⟩ := stC X hx hZ eT A (own_inb Sz hj hj0 hi) (g := mkF m pc L (.int x :: .int j :: .ref a :: S)) rfl rfl hd
  have V' := Arv.set A q Sz N H G (fits_nar_char x) Wr' i hj hi'
  subst hj
  exact Gl.st st (K T' h' _ ⟨X', hx, e', hZ, ho, o.wr Wr' g1, Fr.snoc X' fr g1, kp.wr Wr' g2, hI _ Wr'⟩ Wr' V')
theorem o_caload (W : Wk p l e R s m args below meth c own Z hb ws I T h locs cells slots) {a : Addr} {k : ClassId} {z : Int32} {vs : List Value} {dv : Value} (V : Arv Z h a k .char z vs dv) {j x : Int32} {i : Nat} (hj : j.toNatClampNeg = i) (hj0 : ¬ j < 0) (hi : i < z.toNatClampNeg) (hv : vs.getD i dv = .int x) (hd : decode c.code pc = .ok (.caload, 1)) (hp : pc + 1 = pc')
    (K : Gl p.tables e below P T m pc' L (.int x :: S)) : Gl p.tables e below P T m pc L (.int j :: .ref a :: S) := by
  subst hp hj
  obtain ⟨X, hx, eT, hZ, ho, r⟩ := W
  obtain ⟨cl, A, -, Sz, N, H, -⟩ := V
  have hin := own_inb Sz rfl hj0 hi
  exact Gl.st (X.caload hx (by rw [eT]; exact A.1) (State.isArrayOf_alike hZ.alike A.2.1) A.2.2 hin (H.at hin hv) (g := mkF m pc L (.int j :: .ref a :: S)) rfl rfl hd) K
theorem o_baload (W : Wk p l e R s m args below meth c own Z hb ws I T h locs cells slots) {a : Addr} {k : ClassId} {z : Int32} {vs : List Value} {dv : Value} (V : Arv Z h a k .byte z vs dv) {j x : Int32} {i : Nat} (hj : j.toNatClampNeg = i) (hj0 : ¬ j < 0) (hi : i < z.toNatClampNeg) (hv : vs.getD i dv = .int x) (hd : decode c.code pc = .ok (.baload, 1)) (hp : pc + 1 = pc')
    (K : Gl p.tables e below P T m pc' L (.int x :: S)) : Gl p.tables e below P T m pc L (.int j :: .ref a :: S) := by
  subst hp hj
  obtain ⟨X, hx, eT, hZ, ho, r⟩ := W
  obtain ⟨cl, A, -, Sz, N, H, -⟩ := V
  have hin := own_inb Sz rfl hj0 hi
  exact Gl.st (X.baloadBytes hx (by rw [eT]; exact A.1) (State.isArrayOf_alike hZ.alike A.2.1) A.2.2 hin (H.at hin hv) (g := mkF m pc L (.int j :: .ref a :: S)) rfl rfl hd) K
theorem o_ldcI (W : Wk p l e R s m args below meth c own Z hb ws I T h locs cells slots) {index : Nat} {v : Int32} (w : (Cond.constant own index v).before a0 Z = true) (hd : decode c.code pc = .ok (.ldc index, 2)) (hp : pc + 2 = pc') (K : Gl p.tables e below P T m pc' L (.int v :: S)) : Gl p.tables e below P T m pc L S := by
  subst hp
  exact Gl.st (W.1.ldcInt W.2.1 W.2.2.2.2.1 (mvT W.2.2.2.1 w) (g := mkF m pc L S) rfl hd) K
theorem o_initO (W : Wk p l e R s m args below meth c own Z hb ws I T h locs cells slots) {idx : Nat} (w1 : (Cond.methodLink own idx Lib.objectInit).before a0 Z = true) (w2 : (Cond.instanceMethod Lib.objectInit).before a0 Z = true) (w3 : (Cond.code Lib.objectInit ⟨#[0xb1]⟩ 1 none).before a0 Z = true) {a : Addr} (hml : L.size = c.maxLocals)
    (hd : decode c.code pc = .ok (.invokespecial idx, 3)) (hp : pc + 3 = pc') (hf : 1 ≤ R.frames) (Wd : Nat) (hW : 2 * 0 + (S.map fun v => v.category).sum ≤ Wd) (hl : Wd + 12 ≤ R.locals)
    (K : ∀ T', Wk p l e R s m args below meth c own Z hb ws I T' h locs cells slots → Gl p.tables e below P T' m pc' L S) : Gl p.tables e below P T m pc L (.ref a :: S) := by
  subst hp
  obtain ⟨X, hx, eT, hZ, ho, r⟩ := W
  obtain ⟨T', X', e', st⟩ := initO X hx hZ ho w1 w2 w3 eT (g := mkF m pc L (.ref a :: S)) rfl hml rfl hd hf hW hl
  exact Gl.st st (K T' ⟨X', hx, e', hZ, ho, r⟩)
abbrev BackQ (l : Launch) (R : Room) (p : Program) (e : Env) (below : List Frame) (s : State) (args : Array Value) (y : MethodName) (len Wd : Nat) (as' : Array Value) (h : Heap) (kc ks : Nat) (Q : Option Value → Heap → List Loc → Prop) : Prop :=
  Back l R p e below s args y len Wd (fun A a => a = as' ∧ A.U.heap = h ∧ A.cells + kc ≤ R.cells ∧ A.slots + ks ≤ R.slots) (fun A _ v B => ∃ L, Q v B.U.heap L ∧ B.locs = A.locs ++ L ∧ B.cells = A.cells + kc ∧ B.slots = A.slots + ks)
theorem o_after (W : Wk p l e R s m args below meth c own Z hb ws I T h locs cells slots) {B : Pt} {v : Option Value} {kc ks : Nat} {Q : Option Value → Heap → List Loc → Prop} {wy : List Addr} (X' : Stand p l e R s m args below meth c B.U B.locs B.cells B.slots) (hpost : ∃ L, Q v B.U.heap L ∧ B.locs = locs ++ L ∧ B.cells = cells + kc ∧ B.slots = slots + ks)
    (hq : ∀ v hh L, Q v hh L → Fr Z.heap.size L ∧ Keep h hh wy) (hg : ∀ x ∈ wy, Z.heap.size ≤ x ∧ (x ∈ ws ∨ hb.size ≤ x)) (hI : ∀ h', Keep h h' wy → I h') :
    ∃ L, Q v B.U.heap L ∧ Keep h B.U.heap wy ∧ Wk p l e R s m args below meth c own Z hb ws I B.U B.U.heap (locs ++ L) (cells + kc) (slots + ks) := by
  obtain ⟨X, hx, eT, hZ, ho, o, fr, kp, i⟩ := W
  obtain ⟨⟨U, lo, kc', ks'⟩, rfl⟩ : ∃ B', B' = B := ⟨_, rfl⟩
  obtain ⟨L', q, e1, e2, e3⟩ := hpost
  have e1 : lo = locs ++ L' := e1
  have e2 : kc' = cells + kc := e2
  have e3 : ks' = slots + ks := e3
  subst e1 e2 e3
  obtain ⟨f, k⟩ := hq _ _ _ q
  exact ⟨L', q, k, X', hx, rfl, hZ, ho, o.keep k (fun x hx => (hg x hx).1), fr.app f, kp.trans k (fun x hx => (hg x hx).2), hI _ k⟩
theorem o_static (W : Wk p l e R s m args below meth c own Z hb ws I T h locs cells slots) {index : Nat} {y : MethodName} {bytes : ByteArray} {maxL : Nat} {ret : Option FieldType} (w1 : (Cond.methodLink own index y).before a0 Z = true) (w2 : (Cond.static y).before a0 Z = true) (w3 : (Cond.initialized y.cls).before a0 Z = true) (w4 : (Cond.code y bytes maxL ret).before a0 Z = true)
    (hy : y.cls ≠ "java/lang/invoke/MethodHandle" ∧ y.cls ≠ "java/lang/invoke/VarHandle") {Wd kc ks : Nat} {Q : Option Value → Heap → List Loc → Prop} {argsL : List Value} (B : BackQ l R p e below s args y 3 Wd argsL.toArray h kc ks Q) (hml : L.size = c.maxLocals)
    (hlen : ∀ sig, parseMethodDescriptor y.desc = some sig → argsL.length = sig.parameters.length) {S0 : List Value} (hS : S0 = argsL.reverse ++ S) (hW : 2 * 0 + (S.map fun v => v.category).sum ≤ Wd) (hd : decode c.code pc = .ok (.invokestatic index, 3)) (hp : pc + 3 = pc')
    (hc' : cells + kc = cells') (hs' : slots + ks = slots') (hc : cells' ≤ R.cells) (hs : slots' ≤ R.slots) {wy : List Addr} (hq : ∀ v hh L, Q v hh L → Fr Z.heap.size L ∧ Keep h hh wy) (hg : ∀ x ∈ wy, Z.heap.size ≤ x ∧ (x ∈ ws ∨ hb.size ≤ x)) (hI : ∀ h', Keep h h' wy → I h')
    (K : ∀ v T' h' Lc, Wk p l e R s m args below meth c own Z hb ws I T' h' (locs ++ Lc) cells' slots' → Keep h h' wy → Q v h' Lc → Gl p.tables e below P T' m pc' L (v.toList ++ S)) : Gl p.tables e below P T m pc L S0 := by
  subst hp hc' hs' hS
  obtain ⟨v, vm₁, B', -, X', hpost, st⟩ := Jvm.LawKit.callS W.1 W.2.1 W.2.2.2.2.1 (mvT W.2.2.2.1 w1) (mvT W.2.2.2.1 w2) (mvT W.2.2.2.1 w3) (mvT W.2.2.2.1 w4) hy B (g := mkF m pc L (argsL.reverse ++ S)) rfl hml hlen rfl hW hd (fun _ _ => ⟨rfl, W.2.2.1, hc, hs⟩)
  obtain ⟨Lc, q, k, W'⟩ := o_after W X' hpost hq hg hI
  exact Gl.st st (K v _ _ Lc W' k q)
theorem o_special (W : Wk p l e R s m args below meth c own Z hb ws I T h locs cells slots) {index : Nat} {y : MethodName} {bytes : ByteArray} {maxL : Nat} (hy1 : y.name = "<init>") (w1 : (Cond.methodLink own index y).before a0 Z = true) (w2 : (Cond.instanceMethod y).before a0 Z = true) (w4 : (Cond.code y bytes maxL none).before a0 Z = true)
    (hy : y.cls ≠ "java/lang/invoke/MethodHandle" ∧ y.cls ≠ "java/lang/invoke/VarHandle") {Wd kc ks : Nat} {Q : Option Value → Heap → List Loc → Prop} {a : Addr} {argsL : List Value} (B : BackQ l R p e below s args y 3 Wd (.ref a :: argsL).toArray h kc ks Q) (hml : L.size = c.maxLocals)
    (hlen : ∀ sig, parseMethodDescriptor y.desc = some sig → argsL.length = sig.parameters.length) {S0 : List Value} (hS : S0 = argsL.reverse ++ .ref a :: S) (hW : 2 * 0 + (S.map fun v => v.category).sum ≤ Wd) (hd : decode c.code pc = .ok (.invokespecial index, 3)) (hp : pc + 3 = pc')
    (hc' : cells + kc = cells') (hs' : slots + ks = slots') (hc : cells' ≤ R.cells) (hs : slots' ≤ R.slots) {wy : List Addr} (hq : ∀ v hh L, Q v hh L → Fr Z.heap.size L ∧ Keep h hh wy) (hg : ∀ x ∈ wy, Z.heap.size ≤ x ∧ (x ∈ ws ∨ hb.size ≤ x)) (hI : ∀ h', Keep h h' wy → I h')
    (K : ∀ v T' h' Lc, Wk p l e R s m args below meth c own Z hb ws I T' h' (locs ++ Lc) cells' slots' → Keep h h' wy → Q v h' Lc → Gl p.tables e below P T' m pc' L (v.toList ++ S)) : Gl p.tables e below P T m pc L S0 := by
  subst hp hc' hs' hS
  obtain ⟨v, vm₁, B', -, X', hpost, st⟩ := W.1.specialBack W.2.1 hy1 W.2.2.2.2.1 (mvT W.2.2.2.1 w1) (mvT W.2.2.2.1 w2) (mvT W.2.2.2.1 w4) hy B (g := mkF m pc L (argsL.reverse ++ .ref a :: S)) rfl hml (Steps.refl _) hlen rfl hW hd (fun _ _ => ⟨rfl, W.2.2.1, hc, hs⟩)
  obtain ⟨Lc, q, k, W'⟩ := o_after W X' hpost hq hg hI
  exact Gl.tr st (K v _ _ Lc W' k q)
theorem o_virtual (W : Wk p l e R s m args below meth c own Z hb ws I T h locs cells slots) {index : Nat} {C : String} {y z : MethodName} (w1 : (Cond.methodLink own index y).before a0 Z = true) (w2 : (Cond.declares y).before a0 Z = true) (hnf : NotFace s y) (w3 : (Cond.selects C y z).before a0 Z = true) (w4 : (Cond.instanceMethod z).before a0 Z = true)
    (hy : y.cls ≠ "java/lang/invoke/MethodHandle" ∧ y.cls ≠ "java/lang/invoke/VarHandle") {Wd kc ks : Nat} {Q : Option Value → Heap → List Loc → Prop} {a : Addr} (E : Exa Z h a C) {argsL : List Value} (B : BackQ l R p e below s args z 3 Wd (.ref a :: argsL).toArray h kc ks Q) (hml : L.size = c.maxLocals)
    (hlen : ∀ sig, parseMethodDescriptor y.desc = some sig → argsL.length = sig.parameters.length) {S0 : List Value} (hS : S0 = argsL.reverse ++ .ref a :: S) (hW : 2 * 0 + (S.map fun v => v.category).sum ≤ Wd) (hd : decode c.code pc = .ok (.invokevirtual index, 3)) (hp : pc + 3 = pc')
    (hc' : cells + kc = cells') (hs' : slots + ks = slots') (hc : cells' ≤ R.cells) (hs : slots' ≤ R.slots) {wy : List Addr} (hq : ∀ v hh L, Q v hh L → Fr Z.heap.size L ∧ Keep h hh wy) (hg : ∀ x ∈ wy, Z.heap.size ≤ x ∧ (x ∈ ws ∨ hb.size ≤ x)) (hI : ∀ h', Keep h h' wy → I h')
    (K : ∀ v T' h' Lc, Wk p l e R s m args below meth c own Z hb ws I T' h' (locs ++ Lc) cells' slots' → Keep h h' wy → Q v h' Lc → Gl p.tables e below P T' m pc' L (v.toList ++ S)) : Gl p.tables e below P T m pc L S0 := by
  subst hp hc' hs' hS
  obtain ⟨cB, kB, q1, q2, q3⟩ := isOf W.2.2.2.1 W.2.2.1 E
  obtain ⟨v, vm₁, B', -, X', hpost, st⟩ := W.1.virtualBack W.2.1 W.2.2.2.2.1 (mvT W.2.2.2.1 w1) (mvT W.2.2.2.1 w2) hnf (mvT W.2.2.2.1 w3) (mvT W.2.2.2.1 w4) hy B q1 q3 (g := mkF m pc L (argsL.reverse ++ .ref a :: S)) rfl hml (Steps.refl _) hlen rfl hW hd (fun _ _ => ⟨rfl, W.2.2.1, hc, hs⟩)
  obtain ⟨Lc, q, k, W'⟩ := o_after W X' hpost hq hg hI
  exact Gl.tr st (K v _ _ Lc W' k q)
theorem o_nf (W : Wk p l e R s m args below meth c own Z hb ws I T h locs cells slots) {C : String} {y z : MethodName} (hyz : y = z) (w : (Cond.selects C y z).before a0 Z = true) : NotFace s y := by
  subst hyz
  exact notFace_of_selects (args := #[]) (mvT W.2.2.2.1 w)
def CtrN (l : Launch) (Z : State) (y : MethodName) (bytes : ByteArray) (maxL : Nat) (ret : Option FieldType) (xs : List Jvm.Cond) (rm : Room) (as' : Array Value) (h0 : Heap) (wy : List Addr) (Q : Option Value → Heap → Prop) : Prop :=
  MetFree l y (head1 (Jvm.Cond.code y bytes maxL ret :: xs) rm) (fun a U => a = as' ∧ Z.Warmed39 U.vm ∧ U.heap = h0) (fun _ _ _ _ _ => True) (fun _ U o U' => ∃ v L, o = .returned v ∧ (Fr Z.heap.size L ∧ Keep h0 U'.heap wy ∧ Q v U'.heap) ∧ FrameEnd U o U' L rm.cells rm.slots)
def PN (s : State) (Z : State) (below : List Frame) (h0 : Heap) (wy : List Addr) (rm : Room) (Q : Option Value → Heap → Prop) (s₂ : State) (o : Outcome) : Prop := s₂.status = .running ∧ Ended s₂ below o ∧ ∃ v L, o = .returned v ∧ (Fr Z.heap.size L ∧ Keep h0 s₂.heap wy ∧ Q v s₂.heap) ∧ FrameEnd s o s₂ L rm.cells rm.slots
theorem CtrN.intro {y : MethodName} {bytes : ByteArray} {maxL : Nat} {ret : Option FieldType} {xs : List Jvm.Cond} {rm : Room} {as' : Array Value} {h0 : Heap} {wy : List Addr} {Q : Option Value → Heap → Prop} {L0 : Array Slot} (hx : plainFor y = true) (O : Old Z Z.heap.size h0) (hef : ∀ m, entryFrame m as' maxL = mkF m 0 L0 [])
    (body : ∀ (p : Program) (e : Env) (s : State) (m : MethodId) (below : List Frame) (meth : Method) (c : Code) (T : State), c.code = bytes → c.maxLocals = maxL → meth.sig.returnType = ret → meth.locks = false → meth.name = y.name → Wk p l e rm s m as' below meth c y.cls Z h0 wy (fun _ => True) T h0 [] 0 0 → Gl p.tables e below (PN s Z below h0 wy rm Q) T m 0 L0 []) :
    CtrN l Z y bytes maxL ret xs rm as' h0 wy Q := by
  refine MetFree.of_bodySF hx hisR ?_
  intro p e s m args below meth c s₁ Bd hml hP hK
  obtain ⟨rfl, hZ, hh⟩ := hP
  have e0 : s₁.heap = h0 := by rw [← hh, Bd.state]; rfl
  obtain ⟨s2, o, g1, g2, g3, g4⟩ := body p e s m below meth c s₁ Bd.bytes hml Bd.returns Bd.notSynchronized (name_of_methodNamed Bd.named Bd.method).1 ⟨Stand.of_body Bd, Bd.exec, e0, hZ, findClass_of_methodNamed Bd.named, O, Fr.nil _, Keep.refl _ _, trivial⟩
  exact ⟨s2, o, castTop (hef m) g1, g2, g3, g4⟩
theorem CtrN.back {y : MethodName} {bytes : ByteArray} {maxL : Nat} {ret : Option FieldType} {rm : Room} {as' : Array Value} {wy : List Addr} {Q : Option Value → Heap → Prop} {len Wd : Nat} (W : Wk p l e R s m args below meth c own Z hb ws I T h locs cells slots) (C : CtrN l Z y bytes maxL ret [] rm as' h wy Q) (wc : (Cond.code y bytes maxL ret).before a0 Z = true) (wz : (Cond.initialized y.cls).before a0 Z = true)
    (hf : rm.frames + 1 ≤ R.frames) (hl : Wd + (maxL + 11) + rm.locals ≤ R.locals) : BackQ l R p e below s args y len Wd as' h rm.cells rm.slots (fun v hh L => Fr Z.heap.size L ∧ Keep h hh wy ∧ Q v hh) :=
  backOf (Q := fun v hh L => Fr Z.heap.size L ∧ Keep h hh wy ∧ Q v hh) C W.2.2.2.1 wc wz hf hl
theorem o_leaveN {y0 : List Addr} {Q : Option Value → Heap → Prop} {rm : Room} (W : Wk p l e rm s m args below meth c own Z hb ws I T h locs cells slots) (hlk : meth.locks = false) {v : Option Value} (hv : meth.sig.returnType = none → v = none) (hq : Q v h) (hc : cells ≤ rm.cells) (hs : slots ≤ rm.slots) (st : ∀ fs, (∀ (f : JFrame) (acts : List Action), f.method = m → f.locked = none → f.entered = [] → (doReturn e (T.setTop f) acts v).1 = T.setFrames fs) → Steps p.tables e below (T.setTop (mkF m pc L S)) (T.setFrames fs)) :
    Gl p.tables e below (PN s Z below hb ws rm Q) T m pc L S := by
  obtain ⟨X, hx, eT, hZ, ho, o, fr, kp, i⟩ := W
  obtain ⟨fs, hr, hrun, hended, hW, hsame⟩ := X.leave (v := v) hv
  have eh : (T.setFrames fs).heap = h := eT
  exact ⟨_, _, st fs hr, hrun, hended, v, locs, rfl, ⟨fr, by rw [eh]; exact kp, by rw [eh]; exact hq⟩, ⟨_, rfl⟩, hW, hsame.mono hc hs⟩
theorem o_retI (W : Wk p l e R s m args below meth c own Z hb ws I T h locs cells slots) (hlk : meth.locks = false) {Q : Option Value → Heap → Prop} {z : Int32} (hret : meth.sig.returnType = some .int) (hd : decode c.code pc = .ok (.ireturn, 1)) (hc : cells ≤ R.cells) (hs : slots ≤ R.slots) (hq : Q (some (.int z)) h) : Gl p.tables e below (PN s Z below hb ws R Q) T m pc L (.int z :: S) :=
  o_leaveN (y0 := []) W hlk (fun q => by rw [hret] at q; cases q) hq hc hs fun fs hr => retOut W.1 W.2.1 hret rfl (Or.inl ⟨rfl, Or.inl rfl, _, rfl⟩) hd hr
theorem o_retN (W : Wk p l e R s m args below meth c own Z hb ws I T h locs cells slots) (hlk : meth.locks = false) {Q : Option Value → Heap → Prop} {z z' : Int32} {t : FieldType} (hret : meth.sig.returnType = some t) (ht : t = .boolean ∨ t = .byte ∨ t = .char ∨ t = .short) (hz : nar t z = z') (hd : decode c.code pc = .ok (.ireturn, 1)) (hc : cells ≤ R.cells) (hs : slots ≤ R.slots) (hq : Q (some (.int z')) h) : Gl p.tables e below (PN s Z below hb ws R Q) T m pc L (.int z :: S) := by
  subst hz
  exact o_leaveN (y0 := []) W hlk (fun q => by rw [hret] at q; cases q) hq hc hs fun fs hr => retN W.1 W.2.1 hret ht hd hr
theorem o_retA (W : Wk p l e R s m args below meth c own Z hb ws I T h locs cells slots) (hlk : meth.locks = false) {Q : Option Value → Heap → Prop} {t : FieldType} {v : Value} (hret : meth.sig.returnType = some t) (ht : t.isReference = true) (hv : v.isRef = true) (hd : decode c.code pc = .ok (.areturn, 1)) (hc : cells ≤ R.cells) (hs : slots ≤ R.slots) (hq : Q (some v) h) : Gl p.tables e below (PN s Z below hb ws R Q) T m pc L (v :: S) :=
  o_leaveN (y0 := []) W hlk (fun q => by rw [hret] at q; cases q) hq hc hs fun fs hr => retOut W.1 W.2.1 hret (by cases v <;> first | (cases hv; done) | (cases t <;> first | (cases ht; done) | rfl)) (Or.inr (Or.inr (Or.inr (Or.inr ⟨rfl, ht, hv⟩)))) hd hr
theorem o_ret0 (W : Wk p l e R s m args below meth c own Z hb ws I T h locs cells slots) (hlk : meth.locks = false) {Q : Option Value → Heap → Prop} (hret : meth.sig.returnType = none) (hd : decode c.code pc = .ok (.return_, 1)) (hc : cells ≤ R.cells) (hs : slots ≤ R.slots) (hq : Q none h) : Gl p.tables e below (PN s Z below hb ws R Q) T m pc L [] :=
  o_leaveN (y0 := []) W hlk (fun _ => rfl) hq hc hs fun fs hr => W.1.returnOut W.2.1 hret hd hr
theorem own_fI {args : Array Value} {t : Term} {a : Addr} {C n d : String} {y : Int32} (ev : t.eval args Z none [] Z = some (.ref a)) (h : (Cond.eq (.field t C n d) (.int y)).value args Z none Z [] = some true) : Fld Z Z.heap a C n d (.int y) := by
  have q := eqv_i (Term.int_eval y) h
  rw [fld_at ev] at q
  exact Fld.start q
end OwnPre

section OwnMore
variable {p : Program} {l : Launch} {e : Env} {R : Room} {s : State} {m : MethodId} {args : Array Value} {below : List Frame} {meth : Method} {c : Code} {T : State} {locs : List Loc} {cells slots cells' slots' : Nat} {Z : State} {a0 : Array Value} {h h' hb : Heap} {ws : List Addr} {own : String} {I : Heap → Prop} {P : State → Outcome → Prop} {pc pc' : Nat} {L L' : Array Slot} {S : List Value}
end OwnMore
set_option maxRecDepth 65536
set_option maxHeartbeats 40000000

def own_b (x : Int32) : Prop := ¬ x < 0 ∧ ¬ (255 : Int32) < x
def own_01 (x : Int32) : Prop := x = 0 ∨ x = 1
def own_ok (cs : List Int32) : Prop := (∀ c ∈ cs, own_b c) ∧ cs.length ≤ 4000
def own_eq (cs ds : List Int32) : Int32 := if cs = ds then 1 else 0
theorem own_eq01 (cs ds : List Int32) : own_01 (own_eq cs ds) := by unfold own_eq own_01; split <;> simp
theorem own_eq_symm (cs ds : List Int32) : own_eq cs ds = own_eq ds cs := by
  unfold own_eq
  by_cases h : cs = ds
  · rw [if_pos h, if_pos h.symm]
  · rw [if_neg h, if_neg (Ne.symm h)]
theorem own_lcs (x : Int64) : lcmpW x x = 0 := by simp [lcmpW]
theorem own_eqne (cs : List Int32) : ¬ own_eq cs cs = 0 := by unfold own_eq; rw [if_pos rfl]; decide
theorem own_ite0 {P : Prop} [Decidable P] (h : ¬ P) : (0 : Int32) = if P then 1 else 0 := (if_neg h).symm
theorem own_ite1 {P : Prop} [Decidable P] (h : P) : (1 : Int32) = if P then 1 else 0 := (if_pos h).symm
theorem own_b255 (x : Int32) : own_b (x &&& (255 : Int32)) := by
  have h := c_andS x 255
  have h1 : (x &&& (255 : Int32)).toBitVec.toNat ≤ 255 := by
    rw [Int32.toBitVec_and, BitVec.toNat_and]; exact Nat.and_le_right
  have h0 := h.2.2 (by decide)
  have e : (x &&& (255 : Int32)).toInt = (x &&& (255 : Int32)).toBitVec.toNat := by
    show (x &&& (255 : Int32)).toBitVec.toInt = _
    rw [BitVec.toInt_eq_toNat_cond, if_pos (by omega)]
  refine ⟨?_, ?_⟩
  · rw [Int32.lt_iff_toInt_lt]; show ¬ _ < (0 : Int); omega
  · rw [Int32.lt_iff_toInt_lt]; show ¬ (255 : Int) < _; omega
theorem own_bnat {x : Int32} (h : own_b x) : x.toBitVec.toNat ≤ 255 ∧ x.toInt = x.toBitVec.toNat := by
  obtain ⟨h0, h1⟩ := h
  rw [Int32.lt_iff_toInt_lt] at h0 h1
  have e0 : (0 : Int32).toInt = 0 := rfl
  have e1 : (255 : Int32).toInt = 255 := rfl
  have := x.toBitVec.isLt
  have e : x.toInt = x.toBitVec.toInt := rfl
  have e2 : x.toBitVec.toInt = if 2 * x.toBitVec.toNat < 2 ^ 32 then (x.toBitVec.toNat : Int) else (x.toBitVec.toNat : Int) - ((2 ^ 32 : Nat) : Int) := BitVec.toInt_eq_toNat_cond x.toBitVec
  split at e2 <;> omega
theorem own_i2c {x : Int32} (h : own_b x) : x.toUInt32.toUInt16.toUInt32.toInt32 = x := by
  obtain ⟨h1, -⟩ := own_bnat h
  apply Int32.toBitVec_inj.mp
  apply BitVec.eq_of_toNat_eq
  show (BitVec.setWidth 32 (BitVec.setWidth 16 x.toBitVec)).toNat = _
  simp only [BitVec.toNat_setWidth]
  omega
theorem own_fitC {x : Int32} (h : own_b x) : fits .char (.int x) = true := by
  have q := fits_nar_char x
  have e : nar .char x = x := own_i2c h
  rw [e] at q; exact q
theorem own_nar01 {x : Int32} (h : own_01 x) : x &&& 1 = x := by rcases h with rfl | rfl <;> decide
theorem own_fit01 {x : Int32} (h : own_01 x) : fits .boolean (.int x) = true := by rcases h with rfl | rfl <;> decide
theorem own_up {cs : List Int32} (h : own_ok cs) : ∀ c ∈ cs, ¬ c < 0 ∧ ¬ (65535 : Int32) < c := fun c hc => by
  obtain ⟨h0, h1⟩ := h.1 c hc
  refine ⟨h0, fun q => h1 ?_⟩
  rw [Int32.lt_iff_toInt_lt] at q ⊢
  have e0 : (65535 : Int32).toInt = 65535 := rfl
  have e1 : (255 : Int32).toInt = 255 := rfl
  omega
theorem own_eqv {v : Option Value} {cs ds : List Int32} (h : (v = some (.int 1) ∧ cs = ds) ∨ (v = some (.int 0) ∧ ¬ cs = ds)) : v = some (.int (own_eq cs ds)) := by
  unfold own_eq
  rcases h with ⟨rfl, h⟩ | ⟨rfl, h⟩
  · rw [if_pos h]
  · rw [if_neg h]
theorem own_b8 (x : Int32) : x.toInt8.toInt32.toInt8.toInt32 = x.toInt8.toInt32 := by simp
theorem own_fit8 (x : Int32) : fits .byte (.int x.toInt8.toInt32) = true := fits_nar_byte x
theorem own_shr8 {x : Int32} (h : own_b x) : (x.toUInt32 >>> ((8 : Int32) &&& 31).toUInt32).toInt32 = 0 := by
  obtain ⟨h1, -⟩ := own_bnat h
  apply Int32.toBitVec_inj.mp
  apply BitVec.eq_of_toNat_eq
  have e : ((8 : Int32) &&& 31).toUInt32 = 8 := by decide
  rw [e]
  show (x.toUInt32 >>> 8).toBitVec.toNat = 0
  rw [UInt32.toBitVec_shiftRight]
  show (x.toBitVec >>> (8 : UInt32).toBitVec.umod 32).toNat = 0
  rw [BitVec.ushiftRight_eq', BitVec.toNat_ushiftRight, show ((8 : UInt32).toBitVec.umod 32).toNat = 8 by decide, Nat.shiftRight_eq_div_pow]
  omega
theorem own_eqS {args : Array Value} {Z : State} {t : Term} {x : Int32} (h : t.eval args Z none [] Z = some (.int x)) : (Jvm.Cond.eq t (.int 0)).value args Z none Z [] = some (decide (x = 0)) := by
  simp [Cond.value, h, Term.eval]
theorem own_same {n : Nat} {L : List Loc} {h hh : Heap} (q : L = [] ∧ hh = h) : Fr n L ∧ Keep h hh [] := by
  obtain ⟨rfl, rfl⟩ := q
  exact ⟨Fr.nil _, Keep.refl _ _⟩
theorem own_cod {cs : List Int32} (h : own_ok cs) : StrChars.Road.CodA cs 0 (Int32.ofNat (cs).length) ((cs).map fun c => Value.int (StrChars.lo8 c)) := Or.inl ⟨rfl, rfl, rfl, fun c hc => (h.1 c hc).2⟩
theorem own_hV {Z : State} {a0 : Array Value} (hw : ∀ d ∈ tables_1, d.before a0 Z = true) : ∀ d ∈ StrChars.Road.words, d.before a0 Z = true := fun d hd => hw d ((by decide +kernel : ∀ w ∈ StrChars.Road.words, w ∈ tables_1) d hd)
theorem own_hE {Z : State} {a0 : Array Value} (hw : ∀ d ∈ tables_1, d.before a0 Z = true) : ∀ d ∈ StrChars.Road.wordsEq, d.before a0 Z = true := fun d hd => hw d ((by decide +kernel : ∀ w ∈ StrChars.Road.wordsEq, w ∈ tables_1) d hd)

theorem own_eqR {Z : State} {args : Array Value} {a b : Term} {g : Addr} (h : (Jvm.Cond.eq a b).value args Z none Z [] = some true) (hb : b.eval args Z none [] Z = some (.ref g)) : a.eval args Z none [] Z = some (.ref g) := by
  obtain ⟨x, y, e1, e2, k1, k2⟩ := cmp_v (Or.inl h)
  cases hb.symm.trans e2
  have hx : x.isRef = true := k2.2
  have := gotT (eq_R e1 hb hx rfl) h
  rw [e1, this]
theorem own_len {Z : State} {args : Array Value} {t : Term} {a : Addr} {cl : Cell} {ty : FieldType} {n : Int32} (ev : t.eval args Z none [] Z = some (.ref a)) (A : Arr Z Z.heap a cl ty) (h : (Jvm.Cond.eq (.length t) (.int n)).value args Z none Z [] = some true) : cl.slots.size < 2 ^ 31 ∧ cl.slots.size.toInt32 = n := by
  have q := eqv_i (Term.int_eval n) h
  have f := A.fin (Vm.Alike.refl _)
  by_cases hs : cl.slots.size < 2 ^ 31
  · rw [len_f ev f hs] at q
    exact ⟨hs, by simpa using q⟩
  · simp [Term.eval, ev, f, hs] at q
theorem own_elI {Z : State} {args : Array Value} {t : Term} {a : Addr} {cl : Cell} {ty : FieldType} {i v : Int32} {k : Nat} (ev : t.eval args Z none [] Z = some (.ref a)) (A : Arr Z Z.heap a cl ty) (h : (Jvm.Cond.eq (.elem t (.int i)) (.int v)).value args Z none Z [] = some true) (hk : i.toNatClampNeg = k) : cl.slots[k]? = some (.int v) := by
  subst hk
  exact (elem_in (eqv_i (Term.int_eval v) h) ev (Term.int_eval i) A.1).2
theorem own_elJ {Z : State} {args : Array Value} {t : Term} {a : Addr} {cl : Cell} {ty : FieldType} {i : Int32} {v : Int64} {k : Nat} (ev : t.eval args Z none [] Z = some (.ref a)) (A : Arr Z Z.heap a cl ty) (h : (Jvm.Cond.eq (.elem t (.int i)) (.long v)).value args Z none Z [] = some true) (hk : i.toNatClampNeg = k) : cl.slots[k]? = some (.long v) := by
  subst hk
  exact (elem_in (eqv_l (long_at v) h) ev (Term.int_eval i) A.1).2
theorem own_elR {Z : State} {args : Array Value} {t : Term} {a : Addr} {cl : Cell} {ty : FieldType} {i : Int32} {v : Value} {k : Nat} (ev : t.eval args Z none [] Z = some (.ref a)) (A : Arr Z Z.heap a cl ty) (h : (Term.elem t (.int i)).eval args Z none [] Z = some v) (hk : i.toNatClampNeg = k) : cl.slots[k]? = some v := by
  subst hk
  exact (elem_in h ev (Term.int_eval i) A.1).2

theorem w0 {Z : State} {a0 : Array Value} (hw : ∀ d ∈ tables_1, d.before a0 Z = true) : ((Jvm.Cond.arrayClass Jvm.ClassFile.FieldType.char)).before a0 Z = true := hw _ (List.mem_of_getElem? (i := 0) rfl)
theorem w1 {Z : State} {a0 : Array Value} (hw : ∀ d ∈ tables_1, d.before a0 Z = true) : ((Jvm.Cond.classLink "com/example/plebiscite/plebiscite/core/ConstraintOtherPinLaw" (20 : Nat) "java/lang/String")).before a0 Z = true := hw _ (List.mem_of_getElem? (i := 1) rfl)
theorem w2 {Z : State} {a0 : Array Value} (hw : ∀ d ∈ tables_1, d.before a0 Z = true) : ((Jvm.Cond.instantiable "java/lang/String" (4 : Nat))).before a0 Z = true := hw _ (List.mem_of_getElem? (i := 2) rfl)
theorem w3 {Z : State} {a0 : Array Value} (hw : ∀ d ∈ tables_1, d.before a0 Z = true) : ((Jvm.Cond.initialized "java/lang/String")).before a0 Z = true := hw _ (List.mem_of_getElem? (i := 3) rfl)
theorem w4 {Z : State} {a0 : Array Value} (hw : ∀ d ∈ tables_1, d.before a0 Z = true) : ((Jvm.Cond.methodLink "com/example/plebiscite/plebiscite/core/ConstraintOtherPinLaw" (22 : Nat) ({ cls := "java/lang/String", name := "<init>", desc := "([C)V" } : Jvm.MethodName))).before a0 Z = true := hw _ (List.mem_of_getElem? (i := 4) rfl)
theorem w5 {Z : State} {a0 : Array Value} (hw : ∀ d ∈ tables_1, d.before a0 Z = true) : ((Jvm.Cond.instanceMethod ({ cls := "java/lang/String", name := "<init>", desc := "([C)V" } : Jvm.MethodName))).before a0 Z = true := hw _ (List.mem_of_getElem? (i := 5) rfl)
theorem w6 {Z : State} {a0 : Array Value} (hw : ∀ d ∈ tables_1, d.before a0 Z = true) : ((Jvm.Cond.code ({ cls := "java/lang/String", name := "<init>", desc := "([C)V" } : Jvm.MethodName) jdk_42_method_3_code (2 : Nat) (Option.none : Option Jvm.ClassFile.FieldType))).before a0 Z = true := hw _ (List.mem_of_getElem? (i := 6) rfl)
theorem w12 {Z : State} {a0 : Array Value} (hw : ∀ d ∈ tables_1, d.before a0 Z = true) : ((Jvm.Cond.instanceMethod ({ cls := "java/lang/Object", name := "<init>", desc := "()V" } : Jvm.MethodName))).before a0 Z = true := hw _ (List.mem_of_getElem? (i := 12) rfl)
theorem w13 {Z : State} {a0 : Array Value} (hw : ∀ d ∈ tables_1, d.before a0 Z = true) : ((Jvm.Cond.code ({ cls := "java/lang/Object", name := "<init>", desc := "()V" } : Jvm.MethodName) object_method_1_code (1 : Nat) (Option.none : Option Jvm.ClassFile.FieldType))).before a0 Z = true := hw _ (List.mem_of_getElem? (i := 13) rfl)
theorem w14 {Z : State} {a0 : Array Value} (hw : ∀ d ∈ tables_1, d.before a0 Z = true) : ((Jvm.Cond.fieldLink "java/lang/String" (38 : Nat) "java/lang/String" "COMPACT_STRINGS" "Z")).before a0 Z = true := hw _ (List.mem_of_getElem? (i := 14) rfl)
theorem w26 {Z : State} {a0 : Array Value} (hw : ∀ d ∈ tables_1, d.before a0 Z = true) : ((Jvm.Cond.fieldLink "java/lang/String" (15 : Nat) "java/lang/String" "coder" "B")).before a0 Z = true := hw _ (List.mem_of_getElem? (i := 26) rfl)
theorem w27 {Z : State} {a0 : Array Value} (hw : ∀ d ∈ tables_1, d.before a0 Z = true) : ((Jvm.Cond.laysFinal "java/lang/String" "java/lang/String" "coder" "B")).before a0 Z = true := hw _ (List.mem_of_getElem? (i := 27) rfl)
theorem w28 {Z : State} {a0 : Array Value} (hw : ∀ d ∈ tables_1, d.before a0 Z = true) : ((Jvm.Cond.fieldLink "java/lang/String" (9 : Nat) "java/lang/String" "value" "[B")).before a0 Z = true := hw _ (List.mem_of_getElem? (i := 28) rfl)
theorem w29 {Z : State} {a0 : Array Value} (hw : ∀ d ∈ tables_1, d.before a0 Z = true) : ((Jvm.Cond.laysFinal "java/lang/String" "java/lang/String" "value" "[B")).before a0 Z = true := hw _ (List.mem_of_getElem? (i := 29) rfl)
theorem w30 {Z : State} {a0 : Array Value} (hw : ∀ d ∈ tables_1, d.before a0 Z = true) : ((Jvm.Cond.classLink "com/example/plebiscite/plebiscite/core/ConstraintOtherPinLaw" (25 : Nat) "com/example/plebiscite/plebiscite/core/Constraint")).before a0 Z = true := hw _ (List.mem_of_getElem? (i := 30) rfl)
theorem w31 {Z : State} {a0 : Array Value} (hw : ∀ d ∈ tables_1, d.before a0 Z = true) : ((Jvm.Cond.instantiable "com/example/plebiscite/plebiscite/core/Constraint" (3 : Nat))).before a0 Z = true := hw _ (List.mem_of_getElem? (i := 31) rfl)
theorem w32 {Z : State} {a0 : Array Value} (hw : ∀ d ∈ tables_1, d.before a0 Z = true) : ((Jvm.Cond.initialized "com/example/plebiscite/plebiscite/core/Constraint")).before a0 Z = true := hw _ (List.mem_of_getElem? (i := 32) rfl)
theorem w33 {Z : State} {a0 : Array Value} (hw : ∀ d ∈ tables_1, d.before a0 Z = true) : ((Jvm.Cond.methodLink "com/example/plebiscite/plebiscite/core/ConstraintOtherPinLaw" (27 : Nat) ({ cls := "com/example/plebiscite/plebiscite/core/ConstraintOtherPinLaw", name := "kindOf", desc := "(I)Lcom/example/plebiscite/plebiscite/core/Constraint$Kind;" } : Jvm.MethodName))).before a0 Z = true := hw _ (List.mem_of_getElem? (i := 33) rfl)
theorem w34 {Z : State} {a0 : Array Value} (hw : ∀ d ∈ tables_1, d.before a0 Z = true) : ((Jvm.Cond.static ({ cls := "com/example/plebiscite/plebiscite/core/ConstraintOtherPinLaw", name := "kindOf", desc := "(I)Lcom/example/plebiscite/plebiscite/core/Constraint$Kind;" } : Jvm.MethodName))).before a0 Z = true := hw _ (List.mem_of_getElem? (i := 34) rfl)
theorem w35 {Z : State} {a0 : Array Value} (hw : ∀ d ∈ tables_1, d.before a0 Z = true) : ((Jvm.Cond.initialized "com/example/plebiscite/plebiscite/core/ConstraintOtherPinLaw")).before a0 Z = true := hw _ (List.mem_of_getElem? (i := 35) rfl)
theorem w36 {Z : State} {a0 : Array Value} (hw : ∀ d ∈ tables_1, d.before a0 Z = true) : ((Jvm.Cond.code ({ cls := "com/example/plebiscite/plebiscite/core/ConstraintOtherPinLaw", name := "kindOf", desc := "(I)Lcom/example/plebiscite/plebiscite/core/Constraint$Kind;" } : Jvm.MethodName) method_2_code (2 : Nat) (Option.some (Jvm.ClassFile.FieldType.object "com/example/plebiscite/plebiscite/core/Constraint$Kind")))).before a0 Z = true := hw _ (List.mem_of_getElem? (i := 36) rfl)
theorem w37 {Z : State} {a0 : Array Value} (hw : ∀ d ∈ tables_1, d.before a0 Z = true) : ((Jvm.Cond.constant "com/example/plebiscite/plebiscite/core/ConstraintOtherPinLaw" (7 : Nat) (2147483647 : Int32))).before a0 Z = true := hw _ (List.mem_of_getElem? (i := 37) rfl)
theorem w38 {Z : State} {a0 : Array Value} (hw : ∀ d ∈ tables_1, d.before a0 Z = true) : ((Jvm.Cond.fieldLink "com/example/plebiscite/plebiscite/core/ConstraintOtherPinLaw" (17 : Nat) "com/example/plebiscite/plebiscite/core/Constraint$Kind" "NON_COMMUTING" "Lcom/example/plebiscite/plebiscite/core/Constraint$Kind;")).before a0 Z = true := hw _ (List.mem_of_getElem? (i := 38) rfl)
theorem w39 {Z : State} {a0 : Array Value} (hw : ∀ d ∈ tables_1, d.before a0 Z = true) : ((Jvm.Cond.initialized "com/example/plebiscite/plebiscite/core/Constraint$Kind")).before a0 Z = true := hw _ (List.mem_of_getElem? (i := 39) rfl)
theorem w40 {Z : State} {a0 : Array Value} (hw : ∀ d ∈ tables_1, d.before a0 Z = true) : ((Jvm.Cond.laysStatic "com/example/plebiscite/plebiscite/core/Constraint$Kind" "NON_COMMUTING" "Lcom/example/plebiscite/plebiscite/core/Constraint$Kind;")).before a0 Z = true := hw _ (List.mem_of_getElem? (i := 40) rfl)
theorem w41 {Z : State} {a0 : Array Value} (hw : ∀ d ∈ tables_1, d.before a0 Z = true) : ((Jvm.Cond.methodLink "com/example/plebiscite/plebiscite/core/ConstraintOtherPinLaw" (33 : Nat) ({ cls := "com/example/plebiscite/plebiscite/core/Constraint", name := "<init>", desc := "(Lcom/example/plebiscite/plebiscite/core/Constraint$Kind;Ljava/lang/String;Ljava/lang/String;)V" } : Jvm.MethodName))).before a0 Z = true := hw _ (List.mem_of_getElem? (i := 41) rfl)
theorem w42 {Z : State} {a0 : Array Value} (hw : ∀ d ∈ tables_1, d.before a0 Z = true) : ((Jvm.Cond.instanceMethod ({ cls := "com/example/plebiscite/plebiscite/core/Constraint", name := "<init>", desc := "(Lcom/example/plebiscite/plebiscite/core/Constraint$Kind;Ljava/lang/String;Ljava/lang/String;)V" } : Jvm.MethodName))).before a0 Z = true := hw _ (List.mem_of_getElem? (i := 42) rfl)
theorem w43 {Z : State} {a0 : Array Value} (hw : ∀ d ∈ tables_1, d.before a0 Z = true) : ((Jvm.Cond.code ({ cls := "com/example/plebiscite/plebiscite/core/Constraint", name := "<init>", desc := "(Lcom/example/plebiscite/plebiscite/core/Constraint$Kind;Ljava/lang/String;Ljava/lang/String;)V" } : Jvm.MethodName) prog_19_method_1_code (5 : Nat) (Option.none : Option Jvm.ClassFile.FieldType))).before a0 Z = true := hw _ (List.mem_of_getElem? (i := 43) rfl)
theorem w44 {Z : State} {a0 : Array Value} (hw : ∀ d ∈ tables_1, d.before a0 Z = true) : ((Jvm.Cond.methodLink "com/example/plebiscite/plebiscite/core/Constraint" (1 : Nat) ({ cls := "java/lang/Record", name := "<init>", desc := "()V" } : Jvm.MethodName))).before a0 Z = true := hw _ (List.mem_of_getElem? (i := 44) rfl)
theorem w45 {Z : State} {a0 : Array Value} (hw : ∀ d ∈ tables_1, d.before a0 Z = true) : ((Jvm.Cond.instanceMethod ({ cls := "java/lang/Record", name := "<init>", desc := "()V" } : Jvm.MethodName))).before a0 Z = true := hw _ (List.mem_of_getElem? (i := 45) rfl)
theorem w47 {Z : State} {a0 : Array Value} (hw : ∀ d ∈ tables_1, d.before a0 Z = true) : ((Jvm.Cond.initialized "java/lang/Record")).before a0 Z = true := hw _ (List.mem_of_getElem? (i := 47) rfl)
theorem w48 {Z : State} {a0 : Array Value} (hw : ∀ d ∈ tables_1, d.before a0 Z = true) : ((Jvm.Cond.code ({ cls := "java/lang/Record", name := "<init>", desc := "()V" } : Jvm.MethodName) jdk_30_method_1_code (1 : Nat) (Option.none : Option Jvm.ClassFile.FieldType))).before a0 Z = true := hw _ (List.mem_of_getElem? (i := 48) rfl)
theorem w49 {Z : State} {a0 : Array Value} (hw : ∀ d ∈ tables_1, d.before a0 Z = true) : ((Jvm.Cond.methodLink "java/lang/Record" (1 : Nat) ({ cls := "java/lang/Object", name := "<init>", desc := "()V" } : Jvm.MethodName))).before a0 Z = true := hw _ (List.mem_of_getElem? (i := 49) rfl)
theorem w50 {Z : State} {a0 : Array Value} (hw : ∀ d ∈ tables_1, d.before a0 Z = true) : ((Jvm.Cond.fieldLink "com/example/plebiscite/plebiscite/core/Constraint" (7 : Nat) "com/example/plebiscite/plebiscite/core/Constraint$Kind" "NON_COMMUTING" "Lcom/example/plebiscite/plebiscite/core/Constraint$Kind;")).before a0 Z = true := hw _ (List.mem_of_getElem? (i := 50) rfl)
theorem w51 {Z : State} {a0 : Array Value} (hw : ∀ d ∈ tables_1, d.before a0 Z = true) : ((Jvm.Cond.methodLink "com/example/plebiscite/plebiscite/core/Constraint" (13 : Nat) ({ cls := "java/lang/String", name := "compareTo", desc := "(Ljava/lang/String;)I" } : Jvm.MethodName))).before a0 Z = true := hw _ (List.mem_of_getElem? (i := 51) rfl)
theorem w52 {Z : State} {a0 : Array Value} (hw : ∀ d ∈ tables_1, d.before a0 Z = true) : ((Jvm.Cond.declares ({ cls := "java/lang/String", name := "compareTo", desc := "(Ljava/lang/String;)I" } : Jvm.MethodName))).before a0 Z = true := hw _ (List.mem_of_getElem? (i := 52) rfl)
theorem w53 {Z : State} {a0 : Array Value} (hw : ∀ d ∈ tables_1, d.before a0 Z = true) : ((Jvm.Cond.instanceMethod ({ cls := "java/lang/String", name := "compareTo", desc := "(Ljava/lang/String;)I" } : Jvm.MethodName))).before a0 Z = true := hw _ (List.mem_of_getElem? (i := 53) rfl)
theorem w54 {Z : State} {a0 : Array Value} (hw : ∀ d ∈ tables_1, d.before a0 Z = true) : ((Jvm.Cond.selects "java/lang/String" ({ cls := "java/lang/String", name := "compareTo", desc := "(Ljava/lang/String;)I" } : Jvm.MethodName) ({ cls := "java/lang/String", name := "compareTo", desc := "(Ljava/lang/String;)I" } : Jvm.MethodName))).before a0 Z = true := hw _ (List.mem_of_getElem? (i := 54) rfl)
theorem w55 {Z : State} {a0 : Array Value} (hw : ∀ d ∈ tables_1, d.before a0 Z = true) : ((Jvm.Cond.code ({ cls := "java/lang/String", name := "compareTo", desc := "(Ljava/lang/String;)I" } : Jvm.MethodName) jdk_42_method_71_code (5 : Nat) (Option.some Jvm.ClassFile.FieldType.int))).before a0 Z = true := hw _ (List.mem_of_getElem? (i := 55) rfl)
theorem w56 {Z : State} {a0 : Array Value} (hw : ∀ d ∈ tables_1, d.before a0 Z = true) : ((Jvm.Cond.methodLink "java/lang/String" (335 : Nat) ({ cls := "java/lang/String", name := "coder", desc := "()B" } : Jvm.MethodName))).before a0 Z = true := hw _ (List.mem_of_getElem? (i := 56) rfl)
theorem w57 {Z : State} {a0 : Array Value} (hw : ∀ d ∈ tables_1, d.before a0 Z = true) : ((Jvm.Cond.declares ({ cls := "java/lang/String", name := "coder", desc := "()B" } : Jvm.MethodName))).before a0 Z = true := hw _ (List.mem_of_getElem? (i := 57) rfl)
theorem w58 {Z : State} {a0 : Array Value} (hw : ∀ d ∈ tables_1, d.before a0 Z = true) : ((Jvm.Cond.instanceMethod ({ cls := "java/lang/String", name := "coder", desc := "()B" } : Jvm.MethodName))).before a0 Z = true := hw _ (List.mem_of_getElem? (i := 58) rfl)
theorem w59 {Z : State} {a0 : Array Value} (hw : ∀ d ∈ tables_1, d.before a0 Z = true) : ((Jvm.Cond.selects "java/lang/String" ({ cls := "java/lang/String", name := "coder", desc := "()B" } : Jvm.MethodName) ({ cls := "java/lang/String", name := "coder", desc := "()B" } : Jvm.MethodName))).before a0 Z = true := hw _ (List.mem_of_getElem? (i := 59) rfl)
theorem w60 {Z : State} {a0 : Array Value} (hw : ∀ d ∈ tables_1, d.before a0 Z = true) : ((Jvm.Cond.code ({ cls := "java/lang/String", name := "coder", desc := "()B" } : Jvm.MethodName) jdk_42_method_152_code (1 : Nat) (Option.some Jvm.ClassFile.FieldType.byte))).before a0 Z = true := hw _ (List.mem_of_getElem? (i := 60) rfl)
theorem w61 {Z : State} {a0 : Array Value} (hw : ∀ d ∈ tables_1, d.before a0 Z = true) : ((Jvm.Cond.methodLink "java/lang/String" (586 : Nat) ({ cls := "java/lang/StringLatin1", name := "compareTo", desc := "([B[B)I" } : Jvm.MethodName))).before a0 Z = true := hw _ (List.mem_of_getElem? (i := 61) rfl)
theorem w62 {Z : State} {a0 : Array Value} (hw : ∀ d ∈ tables_1, d.before a0 Z = true) : ((Jvm.Cond.static ({ cls := "java/lang/StringLatin1", name := "compareTo", desc := "([B[B)I" } : Jvm.MethodName))).before a0 Z = true := hw _ (List.mem_of_getElem? (i := 62) rfl)
theorem w63 {Z : State} {a0 : Array Value} (hw : ∀ d ∈ tables_1, d.before a0 Z = true) : ((Jvm.Cond.initialized "java/lang/StringLatin1")).before a0 Z = true := hw _ (List.mem_of_getElem? (i := 63) rfl)
theorem w64 {Z : State} {a0 : Array Value} (hw : ∀ d ∈ tables_1, d.before a0 Z = true) : ((Jvm.Cond.code ({ cls := "java/lang/StringLatin1", name := "compareTo", desc := "([B[B)I" } : Jvm.MethodName) jdk_43_method_14_code (4 : Nat) (Option.some Jvm.ClassFile.FieldType.int))).before a0 Z = true := hw _ (List.mem_of_getElem? (i := 64) rfl)
theorem w65 {Z : State} {a0 : Array Value} (hw : ∀ d ∈ tables_1, d.before a0 Z = true) : ((Jvm.Cond.methodLink "java/lang/StringLatin1" (34 : Nat) ({ cls := "java/lang/StringLatin1", name := "compareTo", desc := "([B[BII)I" } : Jvm.MethodName))).before a0 Z = true := hw _ (List.mem_of_getElem? (i := 65) rfl)
theorem w66 {Z : State} {a0 : Array Value} (hw : ∀ d ∈ tables_1, d.before a0 Z = true) : ((Jvm.Cond.static ({ cls := "java/lang/StringLatin1", name := "compareTo", desc := "([B[BII)I" } : Jvm.MethodName))).before a0 Z = true := hw _ (List.mem_of_getElem? (i := 66) rfl)
theorem w67 {Z : State} {a0 : Array Value} (hw : ∀ d ∈ tables_1, d.before a0 Z = true) : ((Jvm.Cond.code ({ cls := "java/lang/StringLatin1", name := "compareTo", desc := "([B[BII)I" } : Jvm.MethodName) jdk_43_method_15_code (6 : Nat) (Option.some Jvm.ClassFile.FieldType.int))).before a0 Z = true := hw _ (List.mem_of_getElem? (i := 67) rfl)
theorem w68 {Z : State} {a0 : Array Value} (hw : ∀ d ∈ tables_1, d.before a0 Z = true) : ((Jvm.Cond.methodLink "java/lang/StringLatin1" (38 : Nat) ({ cls := "java/lang/Math", name := "min", desc := "(II)I" } : Jvm.MethodName))).before a0 Z = true := hw _ (List.mem_of_getElem? (i := 68) rfl)
theorem w69 {Z : State} {a0 : Array Value} (hw : ∀ d ∈ tables_1, d.before a0 Z = true) : ((Jvm.Cond.static ({ cls := "java/lang/Math", name := "min", desc := "(II)I" } : Jvm.MethodName))).before a0 Z = true := hw _ (List.mem_of_getElem? (i := 69) rfl)
theorem w70 {Z : State} {a0 : Array Value} (hw : ∀ d ∈ tables_1, d.before a0 Z = true) : ((Jvm.Cond.initialized "java/lang/Math")).before a0 Z = true := hw _ (List.mem_of_getElem? (i := 70) rfl)
theorem w71 {Z : State} {a0 : Array Value} (hw : ∀ d ∈ tables_1, d.before a0 Z = true) : ((Jvm.Cond.code ({ cls := "java/lang/Math", name := "min", desc := "(II)I" } : Jvm.MethodName) jdk_29_method_69_code (2 : Nat) (Option.some Jvm.ClassFile.FieldType.int))).before a0 Z = true := hw _ (List.mem_of_getElem? (i := 71) rfl)
theorem w72 {Z : State} {a0 : Array Value} (hw : ∀ d ∈ tables_1, d.before a0 Z = true) : ((Jvm.Cond.methodLink "java/lang/StringLatin1" (44 : Nat) ({ cls := "jdk/internal/util/ArraysSupport", name := "mismatch", desc := "([B[BI)I" } : Jvm.MethodName))).before a0 Z = true := hw _ (List.mem_of_getElem? (i := 72) rfl)
theorem w73 {Z : State} {a0 : Array Value} (hw : ∀ d ∈ tables_1, d.before a0 Z = true) : ((Jvm.Cond.static ({ cls := "jdk/internal/util/ArraysSupport", name := "mismatch", desc := "([B[BI)I" } : Jvm.MethodName))).before a0 Z = true := hw _ (List.mem_of_getElem? (i := 73) rfl)
theorem w74 {Z : State} {a0 : Array Value} (hw : ∀ d ∈ tables_1, d.before a0 Z = true) : ((Jvm.Cond.initialized "jdk/internal/util/ArraysSupport")).before a0 Z = true := hw _ (List.mem_of_getElem? (i := 74) rfl)
theorem w75 {Z : State} {a0 : Array Value} (hw : ∀ d ∈ tables_1, d.before a0 Z = true) : ((Jvm.Cond.code ({ cls := "jdk/internal/util/ArraysSupport", name := "mismatch", desc := "([B[BI)I" } : Jvm.MethodName) jdk_48_method_13_code (4 : Nat) (Option.some Jvm.ClassFile.FieldType.int))).before a0 Z = true := hw _ (List.mem_of_getElem? (i := 75) rfl)
theorem w76 {Z : State} {a0 : Array Value} (hw : ∀ d ∈ tables_1, d.before a0 Z = true) : ((Jvm.Cond.methodLink "java/lang/StringLatin1" (50 : Nat) ({ cls := "java/lang/StringLatin1", name := "getChar", desc := "([BI)C" } : Jvm.MethodName))).before a0 Z = true := hw _ (List.mem_of_getElem? (i := 76) rfl)
theorem w77 {Z : State} {a0 : Array Value} (hw : ∀ d ∈ tables_1, d.before a0 Z = true) : ((Jvm.Cond.static ({ cls := "java/lang/StringLatin1", name := "getChar", desc := "([BI)C" } : Jvm.MethodName))).before a0 Z = true := hw _ (List.mem_of_getElem? (i := 77) rfl)
theorem w78 {Z : State} {a0 : Array Value} (hw : ∀ d ∈ tables_1, d.before a0 Z = true) : ((Jvm.Cond.code ({ cls := "java/lang/StringLatin1", name := "getChar", desc := "([BI)C" } : Jvm.MethodName) jdk_43_method_44_code (2 : Nat) (Option.some Jvm.ClassFile.FieldType.char))).before a0 Z = true := hw _ (List.mem_of_getElem? (i := 78) rfl)
theorem w79 {Z : State} {a0 : Array Value} (hw : ∀ d ∈ tables_1, d.before a0 Z = true) : ((Jvm.Cond.fieldLink "com/example/plebiscite/plebiscite/core/Constraint" (19 : Nat) "com/example/plebiscite/plebiscite/core/Constraint" "kind" "Lcom/example/plebiscite/plebiscite/core/Constraint$Kind;")).before a0 Z = true := hw _ (List.mem_of_getElem? (i := 79) rfl)
theorem w80 {Z : State} {a0 : Array Value} (hw : ∀ d ∈ tables_1, d.before a0 Z = true) : ((Jvm.Cond.laysFinal "com/example/plebiscite/plebiscite/core/Constraint" "com/example/plebiscite/plebiscite/core/Constraint" "kind" "Lcom/example/plebiscite/plebiscite/core/Constraint$Kind;")).before a0 Z = true := hw _ (List.mem_of_getElem? (i := 80) rfl)
theorem w81 {Z : State} {a0 : Array Value} (hw : ∀ d ∈ tables_1, d.before a0 Z = true) : ((Jvm.Cond.fieldLink "com/example/plebiscite/plebiscite/core/Constraint" (24 : Nat) "com/example/plebiscite/plebiscite/core/Constraint" "first" "Ljava/lang/String;")).before a0 Z = true := hw _ (List.mem_of_getElem? (i := 81) rfl)
theorem w82 {Z : State} {a0 : Array Value} (hw : ∀ d ∈ tables_1, d.before a0 Z = true) : ((Jvm.Cond.laysFinal "com/example/plebiscite/plebiscite/core/Constraint" "com/example/plebiscite/plebiscite/core/Constraint" "first" "Ljava/lang/String;")).before a0 Z = true := hw _ (List.mem_of_getElem? (i := 82) rfl)
theorem w83 {Z : State} {a0 : Array Value} (hw : ∀ d ∈ tables_1, d.before a0 Z = true) : ((Jvm.Cond.fieldLink "com/example/plebiscite/plebiscite/core/Constraint" (28 : Nat) "com/example/plebiscite/plebiscite/core/Constraint" "second" "Ljava/lang/String;")).before a0 Z = true := hw _ (List.mem_of_getElem? (i := 83) rfl)
theorem w84 {Z : State} {a0 : Array Value} (hw : ∀ d ∈ tables_1, d.before a0 Z = true) : ((Jvm.Cond.laysFinal "com/example/plebiscite/plebiscite/core/Constraint" "com/example/plebiscite/plebiscite/core/Constraint" "second" "Ljava/lang/String;")).before a0 Z = true := hw _ (List.mem_of_getElem? (i := 84) rfl)
theorem w85 {Z : State} {a0 : Array Value} (hw : ∀ d ∈ tables_1, d.before a0 Z = true) : ((Jvm.Cond.methodLink "com/example/plebiscite/plebiscite/core/ConstraintOtherPinLaw" (36 : Nat) ({ cls := "com/example/plebiscite/plebiscite/core/Constraint", name := "other", desc := "(Ljava/lang/String;)Ljava/lang/String;" } : Jvm.MethodName))).before a0 Z = true := hw _ (List.mem_of_getElem? (i := 85) rfl)
theorem w86 {Z : State} {a0 : Array Value} (hw : ∀ d ∈ tables_1, d.before a0 Z = true) : ((Jvm.Cond.declares ({ cls := "com/example/plebiscite/plebiscite/core/Constraint", name := "other", desc := "(Ljava/lang/String;)Ljava/lang/String;" } : Jvm.MethodName))).before a0 Z = true := hw _ (List.mem_of_getElem? (i := 86) rfl)
theorem w87 {Z : State} {a0 : Array Value} (hw : ∀ d ∈ tables_1, d.before a0 Z = true) : ((Jvm.Cond.instanceMethod ({ cls := "com/example/plebiscite/plebiscite/core/Constraint", name := "other", desc := "(Ljava/lang/String;)Ljava/lang/String;" } : Jvm.MethodName))).before a0 Z = true := hw _ (List.mem_of_getElem? (i := 87) rfl)
theorem w88 {Z : State} {a0 : Array Value} (hw : ∀ d ∈ tables_1, d.before a0 Z = true) : ((Jvm.Cond.selects "com/example/plebiscite/plebiscite/core/Constraint" ({ cls := "com/example/plebiscite/plebiscite/core/Constraint", name := "other", desc := "(Ljava/lang/String;)Ljava/lang/String;" } : Jvm.MethodName) ({ cls := "com/example/plebiscite/plebiscite/core/Constraint", name := "other", desc := "(Ljava/lang/String;)Ljava/lang/String;" } : Jvm.MethodName))).before a0 Z = true := hw _ (List.mem_of_getElem? (i := 88) rfl)
theorem w89 {Z : State} {a0 : Array Value} (hw : ∀ d ∈ tables_1, d.before a0 Z = true) : ((Jvm.Cond.code ({ cls := "com/example/plebiscite/plebiscite/core/Constraint", name := "other", desc := "(Ljava/lang/String;)Ljava/lang/String;" } : Jvm.MethodName) prog_19_method_7_code (2 : Nat) (Option.some (Jvm.ClassFile.FieldType.object "java/lang/String")))).before a0 Z = true := hw _ (List.mem_of_getElem? (i := 89) rfl)
theorem w90 {Z : State} {a0 : Array Value} (hw : ∀ d ∈ tables_1, d.before a0 Z = true) : ((Jvm.Cond.methodLink "com/example/plebiscite/plebiscite/core/Constraint" (53 : Nat) ({ cls := "java/lang/String", name := "equals", desc := "(Ljava/lang/Object;)Z" } : Jvm.MethodName))).before a0 Z = true := hw _ (List.mem_of_getElem? (i := 90) rfl)
theorem w91 {Z : State} {a0 : Array Value} (hw : ∀ d ∈ tables_1, d.before a0 Z = true) : ((Jvm.Cond.declares ({ cls := "java/lang/String", name := "equals", desc := "(Ljava/lang/Object;)Z" } : Jvm.MethodName))).before a0 Z = true := hw _ (List.mem_of_getElem? (i := 91) rfl)
theorem w92 {Z : State} {a0 : Array Value} (hw : ∀ d ∈ tables_1, d.before a0 Z = true) : ((Jvm.Cond.instanceMethod ({ cls := "java/lang/String", name := "equals", desc := "(Ljava/lang/Object;)Z" } : Jvm.MethodName))).before a0 Z = true := hw _ (List.mem_of_getElem? (i := 92) rfl)
theorem w93 {Z : State} {a0 : Array Value} (hw : ∀ d ∈ tables_1, d.before a0 Z = true) : ((Jvm.Cond.selects "java/lang/String" ({ cls := "java/lang/String", name := "equals", desc := "(Ljava/lang/Object;)Z" } : Jvm.MethodName) ({ cls := "java/lang/String", name := "equals", desc := "(Ljava/lang/Object;)Z" } : Jvm.MethodName))).before a0 Z = true := hw _ (List.mem_of_getElem? (i := 93) rfl)
theorem w99 {Z : State} {a0 : Array Value} (hw : ∀ d ∈ tables_1, d.before a0 Z = true) : ((Jvm.Cond.methodLink "com/example/plebiscite/plebiscite/core/ConstraintOtherPinLaw" (40 : Nat) ({ cls := "java/lang/String", name := "equals", desc := "(Ljava/lang/Object;)Z" } : Jvm.MethodName))).before a0 Z = true := hw _ (List.mem_of_getElem? (i := 99) rfl)
theorem w100 {Z : State} {a0 : Array Value} (hw : ∀ d ∈ tables_1, d.before a0 Z = true) : ((Jvm.Cond.fieldLink "com/example/plebiscite/plebiscite/core/ConstraintOtherPinLaw" (8 : Nat) "com/example/plebiscite/plebiscite/core/Constraint$Kind" "NOT_AFTER" "Lcom/example/plebiscite/plebiscite/core/Constraint$Kind;")).before a0 Z = true := hw _ (List.mem_of_getElem? (i := 100) rfl)
theorem w101 {Z : State} {a0 : Array Value} (hw : ∀ d ∈ tables_1, d.before a0 Z = true) : ((Jvm.Cond.laysStatic "com/example/plebiscite/plebiscite/core/Constraint$Kind" "NOT_AFTER" "Lcom/example/plebiscite/plebiscite/core/Constraint$Kind;")).before a0 Z = true := hw _ (List.mem_of_getElem? (i := 101) rfl)
theorem w102 {Z : State} {a0 : Array Value} (hw : ∀ d ∈ tables_1, d.before a0 Z = true) : ((Jvm.Cond.fieldLink "com/example/plebiscite/plebiscite/core/ConstraintOtherPinLaw" (14 : Nat) "com/example/plebiscite/plebiscite/core/Constraint$Kind" "ENABLES" "Lcom/example/plebiscite/plebiscite/core/Constraint$Kind;")).before a0 Z = true := hw _ (List.mem_of_getElem? (i := 102) rfl)
theorem w103 {Z : State} {a0 : Array Value} (hw : ∀ d ∈ tables_1, d.before a0 Z = true) : ((Jvm.Cond.laysStatic "com/example/plebiscite/plebiscite/core/Constraint$Kind" "ENABLES" "Lcom/example/plebiscite/plebiscite/core/Constraint$Kind;")).before a0 Z = true := hw _ (List.mem_of_getElem? (i := 103) rfl)
theorem d7_0 : decode method_2_code 0 = .ok (.iload_n 0, 1) := by decide +kernel
theorem d7_1 : decode method_2_code 1 = .ok (.ldc 7, 2) := by decide +kernel
theorem d7_3 : decode method_2_code 3 = .ok (.iand, 1) := by decide +kernel
theorem d7_4 : decode method_2_code 4 = .ok (.iconst 3, 1) := by decide +kernel
theorem d7_5 : decode method_2_code 5 = .ok (.irem, 1) := by decide +kernel
theorem d7_6 : decode method_2_code 6 = .ok (.istore_n 1, 1) := by decide +kernel
theorem d7_7 : decode method_2_code 7 = .ok (.iload_n 1, 1) := by decide +kernel
theorem d7_8 : decode method_2_code 8 = .ok (.ifCond .ne 7, 3) := by decide +kernel
theorem d7_11 : decode method_2_code 11 = .ok (.getstatic 8, 3) := by decide +kernel
theorem d7_14 : decode method_2_code 14 = .ok (.areturn, 1) := by decide +kernel
theorem d7_15 : decode method_2_code 15 = .ok (.iload_n 1, 1) := by decide +kernel
theorem d7_16 : decode method_2_code 16 = .ok (.iconst 1, 1) := by decide +kernel
theorem d7_17 : decode method_2_code 17 = .ok (.if_icmp .ne 7, 3) := by decide +kernel
theorem d7_20 : decode method_2_code 20 = .ok (.getstatic 14, 3) := by decide +kernel
theorem d7_23 : decode method_2_code 23 = .ok (.areturn, 1) := by decide +kernel
theorem d7_24 : decode method_2_code 24 = .ok (.getstatic 17, 3) := by decide +kernel
theorem d7_27 : decode method_2_code 27 = .ok (.areturn, 1) := by decide +kernel
theorem d8_0 : decode prog_19_method_1_code 0 = .ok (.aload_n 0, 1) := by decide +kernel
theorem d8_1 : decode prog_19_method_1_code 1 = .ok (.invokespecial 1, 3) := by decide +kernel
theorem d8_4 : decode prog_19_method_1_code 4 = .ok (.aload_n 1, 1) := by decide +kernel
theorem d8_5 : decode prog_19_method_1_code 5 = .ok (.getstatic 7, 3) := by decide +kernel
theorem d8_8 : decode prog_19_method_1_code 8 = .ok (.if_acmp .ne 19, 3) := by decide +kernel
theorem d8_11 : decode prog_19_method_1_code 11 = .ok (.aload_n 2, 1) := by decide +kernel
theorem d8_12 : decode prog_19_method_1_code 12 = .ok (.aload_n 3, 1) := by decide +kernel
theorem d8_13 : decode prog_19_method_1_code 13 = .ok (.invokevirtual 13, 3) := by decide +kernel
theorem d8_16 : decode prog_19_method_1_code 16 = .ok (.ifCond .le 11, 3) := by decide +kernel
theorem d8_19 : decode prog_19_method_1_code 19 = .ok (.aload_n 2, 1) := by decide +kernel
theorem d8_20 : decode prog_19_method_1_code 20 = .ok (.astore 4, 2) := by decide +kernel
theorem d8_22 : decode prog_19_method_1_code 22 = .ok (.aload_n 3, 1) := by decide +kernel
theorem d8_23 : decode prog_19_method_1_code 23 = .ok (.astore_n 2, 1) := by decide +kernel
theorem d8_24 : decode prog_19_method_1_code 24 = .ok (.aload 4, 2) := by decide +kernel
theorem d8_26 : decode prog_19_method_1_code 26 = .ok (.astore_n 3, 1) := by decide +kernel
theorem d8_27 : decode prog_19_method_1_code 27 = .ok (.aload_n 0, 1) := by decide +kernel
theorem d8_28 : decode prog_19_method_1_code 28 = .ok (.aload_n 1, 1) := by decide +kernel
theorem d8_29 : decode prog_19_method_1_code 29 = .ok (.putfield 19, 3) := by decide +kernel
theorem d8_32 : decode prog_19_method_1_code 32 = .ok (.aload_n 0, 1) := by decide +kernel
theorem d8_33 : decode prog_19_method_1_code 33 = .ok (.aload_n 2, 1) := by decide +kernel
theorem d8_34 : decode prog_19_method_1_code 34 = .ok (.putfield 24, 3) := by decide +kernel
theorem d8_37 : decode prog_19_method_1_code 37 = .ok (.aload_n 0, 1) := by decide +kernel
theorem d8_38 : decode prog_19_method_1_code 38 = .ok (.aload_n 3, 1) := by decide +kernel
theorem d8_39 : decode prog_19_method_1_code 39 = .ok (.putfield 28, 3) := by decide +kernel
theorem d8_42 : decode prog_19_method_1_code 42 = .ok (.return_, 1) := by decide +kernel
theorem d9_0 : decode jdk_30_method_1_code 0 = .ok (.aload_n 0, 1) := by decide +kernel
theorem d9_1 : decode jdk_30_method_1_code 1 = .ok (.invokespecial 1, 3) := by decide +kernel
theorem d9_4 : decode jdk_30_method_1_code 4 = .ok (.return_, 1) := by decide +kernel
theorem d10_0 : decode jdk_42_method_71_code 0 = .ok (.aload_n 0, 1) := by decide +kernel
theorem d10_1 : decode jdk_42_method_71_code 1 = .ok (.getfield 9, 3) := by decide +kernel
theorem d10_4 : decode jdk_42_method_71_code 4 = .ok (.astore_n 2, 1) := by decide +kernel
theorem d10_5 : decode jdk_42_method_71_code 5 = .ok (.aload_n 1, 1) := by decide +kernel
theorem d10_6 : decode jdk_42_method_71_code 6 = .ok (.getfield 9, 3) := by decide +kernel
theorem d10_9 : decode jdk_42_method_71_code 9 = .ok (.astore_n 3, 1) := by decide +kernel
theorem d10_10 : decode jdk_42_method_71_code 10 = .ok (.aload_n 0, 1) := by decide +kernel
theorem d10_11 : decode jdk_42_method_71_code 11 = .ok (.invokevirtual 335, 3) := by decide +kernel
theorem d10_14 : decode jdk_42_method_71_code 14 = .ok (.istore 4, 2) := by decide +kernel
theorem d10_16 : decode jdk_42_method_71_code 16 = .ok (.iload 4, 2) := by decide +kernel
theorem d10_18 : decode jdk_42_method_71_code 18 = .ok (.aload_n 1, 1) := by decide +kernel
theorem d10_19 : decode jdk_42_method_71_code 19 = .ok (.invokevirtual 335, 3) := by decide +kernel
theorem d10_22 : decode jdk_42_method_71_code 22 = .ok (.if_icmp .ne 22, 3) := by decide +kernel
theorem d10_25 : decode jdk_42_method_71_code 25 = .ok (.iload 4, 2) := by decide +kernel
theorem d10_27 : decode jdk_42_method_71_code 27 = .ok (.ifCond .ne 11, 3) := by decide +kernel
theorem d10_30 : decode jdk_42_method_71_code 30 = .ok (.aload_n 2, 1) := by decide +kernel
theorem d10_31 : decode jdk_42_method_71_code 31 = .ok (.aload_n 3, 1) := by decide +kernel
theorem d10_32 : decode jdk_42_method_71_code 32 = .ok (.invokestatic 586, 3) := by decide +kernel
theorem d10_35 : decode jdk_42_method_71_code 35 = .ok (.goto 8, 3) := by decide +kernel
theorem d10_43 : decode jdk_42_method_71_code 43 = .ok (.ireturn, 1) := by decide +kernel
theorem d11_0 : decode jdk_42_method_152_code 0 = .ok (.getstatic 38, 3) := by decide +kernel
theorem d11_3 : decode jdk_42_method_152_code 3 = .ok (.ifCond .eq 10, 3) := by decide +kernel
theorem d11_6 : decode jdk_42_method_152_code 6 = .ok (.aload_n 0, 1) := by decide +kernel
theorem d11_7 : decode jdk_42_method_152_code 7 = .ok (.getfield 15, 3) := by decide +kernel
theorem d11_10 : decode jdk_42_method_152_code 10 = .ok (.goto 4, 3) := by decide +kernel
theorem d11_14 : decode jdk_42_method_152_code 14 = .ok (.ireturn, 1) := by decide +kernel
theorem d12_0 : decode jdk_43_method_14_code 0 = .ok (.aload_n 0, 1) := by decide +kernel
theorem d12_1 : decode jdk_43_method_14_code 1 = .ok (.arraylength, 1) := by decide +kernel
theorem d12_2 : decode jdk_43_method_14_code 2 = .ok (.istore_n 2, 1) := by decide +kernel
theorem d12_3 : decode jdk_43_method_14_code 3 = .ok (.aload_n 1, 1) := by decide +kernel
theorem d12_4 : decode jdk_43_method_14_code 4 = .ok (.arraylength, 1) := by decide +kernel
theorem d12_5 : decode jdk_43_method_14_code 5 = .ok (.istore_n 3, 1) := by decide +kernel
theorem d12_6 : decode jdk_43_method_14_code 6 = .ok (.aload_n 0, 1) := by decide +kernel
theorem d12_7 : decode jdk_43_method_14_code 7 = .ok (.aload_n 1, 1) := by decide +kernel
theorem d12_8 : decode jdk_43_method_14_code 8 = .ok (.iload_n 2, 1) := by decide +kernel
theorem d12_9 : decode jdk_43_method_14_code 9 = .ok (.iload_n 3, 1) := by decide +kernel
theorem d12_10 : decode jdk_43_method_14_code 10 = .ok (.invokestatic 34, 3) := by decide +kernel
theorem d12_13 : decode jdk_43_method_14_code 13 = .ok (.ireturn, 1) := by decide +kernel
theorem d13_0 : decode jdk_43_method_15_code 0 = .ok (.iload_n 2, 1) := by decide +kernel
theorem d13_1 : decode jdk_43_method_15_code 1 = .ok (.iload_n 3, 1) := by decide +kernel
theorem d13_2 : decode jdk_43_method_15_code 2 = .ok (.invokestatic 38, 3) := by decide +kernel
theorem d13_5 : decode jdk_43_method_15_code 5 = .ok (.istore 4, 2) := by decide +kernel
theorem d13_7 : decode jdk_43_method_15_code 7 = .ok (.aload_n 0, 1) := by decide +kernel
theorem d13_8 : decode jdk_43_method_15_code 8 = .ok (.aload_n 1, 1) := by decide +kernel
theorem d13_9 : decode jdk_43_method_15_code 9 = .ok (.iload 4, 2) := by decide +kernel
theorem d13_11 : decode jdk_43_method_15_code 11 = .ok (.invokestatic 44, 3) := by decide +kernel
theorem d13_14 : decode jdk_43_method_15_code 14 = .ok (.istore 5, 2) := by decide +kernel
theorem d13_16 : decode jdk_43_method_15_code 16 = .ok (.iload 5, 2) := by decide +kernel
theorem d13_18 : decode jdk_43_method_15_code 18 = .ok (.ifCond .ge 9, 3) := by decide +kernel
theorem d13_21 : decode jdk_43_method_15_code 21 = .ok (.iload_n 2, 1) := by decide +kernel
theorem d13_22 : decode jdk_43_method_15_code 22 = .ok (.iload_n 3, 1) := by decide +kernel
theorem d13_23 : decode jdk_43_method_15_code 23 = .ok (.isub, 1) := by decide +kernel
theorem d13_24 : decode jdk_43_method_15_code 24 = .ok (.goto 16, 3) := by decide +kernel
theorem d13_27 : decode jdk_43_method_15_code 27 = .ok (.aload_n 0, 1) := by decide +kernel
theorem d13_28 : decode jdk_43_method_15_code 28 = .ok (.iload 5, 2) := by decide +kernel
theorem d13_30 : decode jdk_43_method_15_code 30 = .ok (.invokestatic 50, 3) := by decide +kernel
theorem d13_33 : decode jdk_43_method_15_code 33 = .ok (.aload_n 1, 1) := by decide +kernel
theorem d13_34 : decode jdk_43_method_15_code 34 = .ok (.iload 5, 2) := by decide +kernel
theorem d13_36 : decode jdk_43_method_15_code 36 = .ok (.invokestatic 50, 3) := by decide +kernel
theorem d13_39 : decode jdk_43_method_15_code 39 = .ok (.isub, 1) := by decide +kernel
theorem d13_40 : decode jdk_43_method_15_code 40 = .ok (.ireturn, 1) := by decide +kernel
theorem d14_0 : decode jdk_29_method_69_code 0 = .ok (.iload_n 0, 1) := by decide +kernel
theorem d14_1 : decode jdk_29_method_69_code 1 = .ok (.iload_n 1, 1) := by decide +kernel
theorem d14_2 : decode jdk_29_method_69_code 2 = .ok (.if_icmp .gt 7, 3) := by decide +kernel
theorem d14_5 : decode jdk_29_method_69_code 5 = .ok (.iload_n 0, 1) := by decide +kernel
theorem d14_6 : decode jdk_29_method_69_code 6 = .ok (.goto 4, 3) := by decide +kernel
theorem d14_10 : decode jdk_29_method_69_code 10 = .ok (.ireturn, 1) := by decide +kernel
theorem d15_0 : decode jdk_48_method_13_code 0 = .ok (.iconst 0, 1) := by decide +kernel
theorem d15_1 : decode jdk_48_method_13_code 1 = .ok (.istore_n 3, 1) := by decide +kernel
theorem d15_2 : decode jdk_48_method_13_code 2 = .ok (.iload_n 2, 1) := by decide +kernel
theorem d15_3 : decode jdk_48_method_13_code 3 = .ok (.bipush 7, 2) := by decide +kernel
theorem d15_5 : decode jdk_48_method_13_code 5 = .ok (.if_icmp .le 44, 3) := by decide +kernel
theorem d15_49 : decode jdk_48_method_13_code 49 = .ok (.iload_n 3, 1) := by decide +kernel
theorem d15_50 : decode jdk_48_method_13_code 50 = .ok (.iload_n 2, 1) := by decide +kernel
theorem d15_51 : decode jdk_48_method_13_code 51 = .ok (.if_icmp .ge 20, 3) := by decide +kernel
theorem d15_54 : decode jdk_48_method_13_code 54 = .ok (.aload_n 0, 1) := by decide +kernel
theorem d15_55 : decode jdk_48_method_13_code 55 = .ok (.iload_n 3, 1) := by decide +kernel
theorem d15_56 : decode jdk_48_method_13_code 56 = .ok (.baload, 1) := by decide +kernel
theorem d15_57 : decode jdk_48_method_13_code 57 = .ok (.aload_n 1, 1) := by decide +kernel
theorem d15_58 : decode jdk_48_method_13_code 58 = .ok (.iload_n 3, 1) := by decide +kernel
theorem d15_59 : decode jdk_48_method_13_code 59 = .ok (.baload, 1) := by decide +kernel
theorem d15_60 : decode jdk_48_method_13_code 60 = .ok (.if_icmp .eq 5, 3) := by decide +kernel
theorem d15_63 : decode jdk_48_method_13_code 63 = .ok (.iload_n 3, 1) := by decide +kernel
theorem d15_64 : decode jdk_48_method_13_code 64 = .ok (.ireturn, 1) := by decide +kernel
theorem d15_65 : decode jdk_48_method_13_code 65 = .ok (.iinc 3 1, 3) := by decide +kernel
theorem d15_68 : decode jdk_48_method_13_code 68 = .ok (.goto (-19), 3) := by decide +kernel
theorem d15_71 : decode jdk_48_method_13_code 71 = .ok (.iconst (-1), 1) := by decide +kernel
theorem d15_72 : decode jdk_48_method_13_code 72 = .ok (.ireturn, 1) := by decide +kernel
theorem d16_0 : decode jdk_43_method_44_code 0 = .ok (.aload_n 0, 1) := by decide +kernel
theorem d16_1 : decode jdk_43_method_44_code 1 = .ok (.iload_n 1, 1) := by decide +kernel
theorem d16_2 : decode jdk_43_method_44_code 2 = .ok (.baload, 1) := by decide +kernel
theorem d16_3 : decode jdk_43_method_44_code 3 = .ok (.sipush 255, 3) := by decide +kernel
theorem d16_6 : decode jdk_43_method_44_code 6 = .ok (.iand, 1) := by decide +kernel
theorem d16_7 : decode jdk_43_method_44_code 7 = .ok (.i2c, 1) := by decide +kernel
theorem d16_8 : decode jdk_43_method_44_code 8 = .ok (.ireturn, 1) := by decide +kernel
theorem d17_0 : decode prog_19_method_7_code 0 = .ok (.aload_n 0, 1) := by decide +kernel
theorem d17_1 : decode prog_19_method_7_code 1 = .ok (.getfield 24, 3) := by decide +kernel
theorem d17_4 : decode prog_19_method_7_code 4 = .ok (.aload_n 1, 1) := by decide +kernel
theorem d17_5 : decode prog_19_method_7_code 5 = .ok (.invokevirtual 53, 3) := by decide +kernel
theorem d17_8 : decode prog_19_method_7_code 8 = .ok (.ifCond .eq 10, 3) := by decide +kernel
theorem d17_11 : decode prog_19_method_7_code 11 = .ok (.aload_n 0, 1) := by decide +kernel
theorem d17_12 : decode prog_19_method_7_code 12 = .ok (.getfield 28, 3) := by decide +kernel
theorem d17_15 : decode prog_19_method_7_code 15 = .ok (.goto 7, 3) := by decide +kernel
theorem d17_18 : decode prog_19_method_7_code 18 = .ok (.aload_n 0, 1) := by decide +kernel
theorem d17_19 : decode prog_19_method_7_code 19 = .ok (.getfield 24, 3) := by decide +kernel
theorem d17_22 : decode prog_19_method_7_code 22 = .ok (.areturn, 1) := by decide +kernel
theorem pd0 : parseMethodDescriptor "([C)V" = some ⟨[(.array .char)], none⟩ := by decide +kernel
theorem pd1 : parseMethodDescriptor "(I)Lcom/example/plebiscite/plebiscite/core/Constraint$Kind;" = some ⟨[.int], some (.object "com/example/plebiscite/plebiscite/core/Constraint$Kind")⟩ := by decide +kernel
theorem pd2 : parseMethodDescriptor "()V" = some ⟨[], none⟩ := by decide +kernel
theorem pd3 : parseMethodDescriptor "()B" = some ⟨[], some .byte⟩ := by decide +kernel
theorem pd4 : parseMethodDescriptor "(II)I" = some ⟨[.int, .int], some .int⟩ := by decide +kernel
theorem pd5 : parseMethodDescriptor "([B[BI)I" = some ⟨[(.array .byte), (.array .byte), .int], some .int⟩ := by decide +kernel
theorem pd6 : parseMethodDescriptor "([B[BII)I" = some ⟨[(.array .byte), (.array .byte), .int, .int], some .int⟩ := by decide +kernel
theorem pd7 : parseMethodDescriptor "([B[B)I" = some ⟨[(.array .byte), (.array .byte)], some .int⟩ := by decide +kernel
theorem pd8 : parseMethodDescriptor "(Ljava/lang/String;)I" = some ⟨[(.object "java/lang/String")], some .int⟩ := by decide +kernel
theorem pd9 : parseMethodDescriptor "(Lcom/example/plebiscite/plebiscite/core/Constraint$Kind;Ljava/lang/String;Ljava/lang/String;)V" = some ⟨[(.object "com/example/plebiscite/plebiscite/core/Constraint$Kind"), (.object "java/lang/String"), (.object "java/lang/String")], none⟩ := by decide +kernel
theorem pd10 : parseMethodDescriptor "(Ljava/lang/Object;)Z" = some ⟨[(.object "java/lang/Object")], some .boolean⟩ := by decide +kernel
theorem pd11 : parseMethodDescriptor "(Ljava/lang/String;)Ljava/lang/String;" = some ⟨[(.object "java/lang/String")], some (.object "java/lang/String")⟩ := by decide +kernel
theorem pd12 : parseMethodDescriptor "([BI)C" = some ⟨[(.array .byte), .int], some .char⟩ := by decide +kernel
theorem pn0 : plainName "com/example/plebiscite/plebiscite/core/ConstraintOtherPinLaw" = true := by first | (simp [plainName, overriddenIn]; done) | decide +kernel
theorem pn1 : plainName "java/lang/Record" = true := by first | (simp [plainName, overriddenIn]; done) | decide +kernel
theorem pn2 : plainName "java/lang/String" = true := by first | (simp [plainName, overriddenIn]; done) | decide +kernel
theorem pn3 : plainName "jdk/internal/util/ArraysSupport" = true := by first | (simp [plainName, overriddenIn]; done) | decide +kernel
theorem pn4 : plainName "java/lang/StringLatin1" = true := by first | (simp [plainName, overriddenIn]; done) | decide +kernel
theorem pn5 : plainName "com/example/plebiscite/plebiscite/core/Constraint" = true := by first | (simp [plainName, overriddenIn]; done) | decide +kernel
theorem rm1 (l : Launch) (Z : State) (a0 : Array Value) (hw : ∀ d ∈ tables_1, d.before a0 Z = true) (gN : Addr) (x1 : Int32) (h0 : Heap) (O0 : Old Z Z.heap.size h0) (hc1 : ¬ (((x1 &&& (2147483647 : Int32)) % (3 : Int32)) = (0 : Int32))) (hc2 : ¬ (((x1 &&& (2147483647 : Int32)) % (3 : Int32)) = (1 : Int32))) (SgN_NON_COMMUTING : Sta Z Z.heap "com/example/plebiscite/plebiscite/core/Constraint$Kind" "NON_COMMUTING" "Lcom/example/plebiscite/plebiscite/core/Constraint$Kind;" (.ref gN)) :
    CtrN l Z (⟨"com/example/plebiscite/plebiscite/core/ConstraintOtherPinLaw", "kindOf", "(I)Lcom/example/plebiscite/plebiscite/core/Constraint$Kind;"⟩ : MethodName) method_2_code 2 (some (.object "com/example/plebiscite/plebiscite/core/Constraint$Kind")) [] (⟨0, 0, 0, 0⟩ : Room) #[(.int x1)] h0 [] (fun v h => v = some (.ref gN)) := by
  refine CtrN.intro (L0 := #[.val (.int x1), .unset]) (plainFor_of_name pn0) O0 (fun m => by first | rfl | (simp [entryFrame, mkF, argsToLocals, Value.category]; done)) ?_
  intro p e s m below meth c T0 hy hml hret hlk hnm W0
  refine o_iloadN W0 (pc' := 1) (hb hy d7_0) rfl rfl ?_
  refine o_ldcI W0 (w37 hw) (pc' := 3) (hb hy d7_1) rfl ?_
  refine o_iand W0 (v := (x1 &&& (2147483647 : Int32))) (pc' := 4) (hb hy d7_3) rfl rfl ?_
  refine o_iconst W0 (v := 3) (pc' := 5) (hb hy d7_4) rfl rfl ?_
  refine o_irem W0 (v := ((x1 &&& (2147483647 : Int32)) % (3 : Int32))) (pc' := 6) (hb hy d7_5) (by decide) rfl rfl ?_
  refine o_istoreN W0 (L' := #[.val (.int x1), .val (.int ((x1 &&& (2147483647 : Int32)) % (3 : Int32)))]) (pc' := 7) (hb hy d7_6) rfl rfl ?_
  refine o_iloadN W0 (pc' := 8) (hb hy d7_7) rfl rfl ?_
  refine o_ifY W0 (pc' := 15) (hb hy d7_8) (XT.i0_ne_t hc1) (by decide) rfl ?_
  refine o_iloadN W0 (pc' := 16) (hb hy d7_15) rfl rfl ?_
  refine o_iconst W0 (v := 1) (pc' := 17) (hb hy d7_16) rfl rfl ?_
  refine o_icmpY W0 (pc' := 24) (hb hy d7_17) (XT.ii_ne_t hc2) (by decide) rfl ?_
  refine o_getS W0 (w38 hw) Via.refl (SgN_NON_COMMUTING.ext W0.ox) (pc' := 27) (hb hy d7_24) rfl ?_
  intro T3 W3
  exact o_retA W3 hlk (v := (.ref gN)) hret rfl rfl (hb hy d7_27) (by decide) (by decide) rfl
theorem rm2 (l : Launch) (Z : State) (a0 : Array Value) (hw : ∀ d ∈ tables_1, d.before a0 Z = true) (a1 : Addr) (h0 : Heap) (O0 : Old Z Z.heap.size h0) :
    CtrN l Z (⟨"java/lang/Record", "<init>", "()V"⟩ : MethodName) jdk_30_method_1_code 1 none [] (⟨1, 0, 0, 12⟩ : Room) #[(.ref a1)] h0 [] (fun v h => v = none) := by
  refine CtrN.intro (L0 := #[.val (.ref a1)]) (plainFor_of_name pn1) O0 (fun m => by first | rfl | (simp [entryFrame, mkF, argsToLocals, Value.category]; done)) ?_
  intro p e s m below meth c T0 hy hml hret hlk hnm W0
  refine o_aloadN W0 (pc' := 1) (hb hy d9_0) rfl rfl rfl ?_
  refine o_initO W0 (w49 hw) (w12 hw) (w13 hw) (by rw [hml]; rfl) (pc' := 4) (hb hy d9_1) rfl (by decide) 0 (by exact Nat.le_of_eq rfl) (by decide) ?_
  intro T1 W1
  exact o_ret0 W1 hlk hret (hb hy d9_4) (by decide) (by decide) rfl
theorem rm3 (l : Launch) (Z : State) (a0 : Array Value) (hw : ∀ d ∈ tables_1, d.before a0 Z = true) (gCS : Int32) (a1 : Addr) (h0 : Heap) (O0 : Old Z Z.heap.size h0) (SgCS : Sta Z Z.heap "java/lang/String" "COMPACT_STRINGS" "Z" (.int gCS)) (NgCS : ¬ (gCS = (0 : Int32))) (F_a1_coder : Fld Z h0 a1 "java/lang/String" "coder" "B" (.int 0)) :
    CtrN l Z (⟨"java/lang/String", "coder", "()B"⟩ : MethodName) jdk_42_method_152_code 1 (some .byte) [] (⟨0, 0, 0, 0⟩ : Room) #[(.ref a1)] h0 [] (fun v h => v = some (.int 0)) := by
  refine CtrN.intro (L0 := #[.val (.ref a1)]) (plainFor_of_name pn2) O0 (fun m => by first | rfl | (simp [entryFrame, mkF, argsToLocals, Value.category]; done)) ?_
  intro p e s m below meth c T0 hy hml hret hlk hnm W0
  refine o_getS W0 (w14 hw) Via.refl (SgCS.ext W0.ox) (pc' := 3) (hb hy d11_0) rfl ?_
  intro T1 W1
  refine o_ifN W1 (pc' := 6) (hb hy d11_3) (XT.i0_eq_f NgCS) rfl ?_
  refine o_aloadN W1 (pc' := 7) (hb hy d11_6) rfl rfl rfl ?_
  refine o_getF W1 (w26 hw) Via.refl F_a1_coder (pc' := 10) (hb hy d11_7) rfl ?_
  intro T2 W2
  refine o_goto W2 (pc' := 14) (hb hy d11_10) (by decide) rfl ?_
  exact o_retN W2 hlk (t := .byte) hret (by simp) (z' := (0 : Int32)) (by decide) (hb hy d11_14) (by decide) (by decide) rfl
theorem rm4 (l : Launch) (Z : State) (a0 : Array Value) (hw : ∀ d ∈ tables_1, d.before a0 Z = true)  (h0 : Heap) (O0 : Old Z Z.heap.size h0) :
    CtrN l Z (⟨"java/lang/Math", "min", "(II)I"⟩ : MethodName) jdk_29_method_69_code 2 (some .int) [] (⟨0, 0, 0, 0⟩ : Room) #[(.int 2), (.int 2)] h0 [] (fun v h => v = some (.int 2)) := by
  refine CtrN.intro (L0 := #[.val (.int 2), .val (.int 2)]) (Jvm.Free.JP.mathPlain rfl (by decide +kernel)) O0 (fun m => by first | rfl | (simp [entryFrame, mkF, argsToLocals, Value.category]; done)) ?_
  intro p e s m below meth c T0 hy hml hret hlk hnm W0
  refine o_iloadN W0 (pc' := 1) (hb hy d14_0) rfl rfl ?_
  refine o_iloadN W0 (pc' := 2) (hb hy d14_1) rfl rfl ?_
  refine o_icmpN W0 (pc' := 5) (hb hy d14_2) (XT.ii_gt_f (by decide)) rfl ?_
  refine o_iloadN W0 (pc' := 6) (hb hy d14_5) rfl rfl ?_
  refine o_goto W0 (pc' := 10) (hb hy d14_6) (by decide) rfl ?_
  exact o_retI W0 hlk hret (hb hy d14_10) (by decide) (by decide) rfl
theorem rm5 (l : Launch) (Z : State) (a0 : Array Value) (hw : ∀ d ∈ tables_1, d.before a0 Z = true) (a1 a2 : Addr) (k_a1 : ClassId) (x1 x2 : Int32) (k_a2 : ClassId) (x3 x4 : Int32) (h0 : Heap) (O0 : Old Z Z.heap.size h0) (V_a1 : Arv Z h0 a1 k_a1 .byte (2 : Int32) [(.int (StrChars.lo8 x1)), (.int (StrChars.lo8 x2))] (.int 0)) (V_a2 : Arv Z h0 a2 k_a2 .byte (2 : Int32) [(.int (StrChars.lo8 x3)), (.int (StrChars.lo8 x4))] (.int 0)) (hc1 : (StrChars.lo8 x1) = (StrChars.lo8 x3)) (hc2 : (StrChars.lo8 x2) = (StrChars.lo8 x4)) :
    CtrN l Z (⟨"jdk/internal/util/ArraysSupport", "mismatch", "([B[BI)I"⟩ : MethodName) jdk_48_method_13_code 4 (some .int) [] (⟨0, 0, 0, 0⟩ : Room) #[(.ref a1), (.ref a2), (.int 2)] h0 [] (fun v h => v = some (.int (-1 : Int32))) := by
  refine CtrN.intro (L0 := #[.val (.ref a1), .val (.ref a2), .val (.int 2), .unset]) (plainFor_of_name pn3) O0 (fun m => by first | rfl | (simp [entryFrame, mkF, argsToLocals, Value.category]; done)) ?_
  intro p e s m below meth c T0 hy hml hret hlk hnm W0
  refine o_iconst W0 (v := 0) (pc' := 1) (hb hy d15_0) rfl rfl ?_
  refine o_istoreN W0 (L' := #[.val (.ref a1), .val (.ref a2), .val (.int 2), .val (.int 0)]) (pc' := 2) (hb hy d15_1) rfl rfl ?_
  refine o_iloadN W0 (pc' := 3) (hb hy d15_2) rfl rfl ?_
  refine o_bipush W0 (v := 7) (pc' := 5) (hb hy d15_3) (by decide) rfl ?_
  refine o_icmpY W0 (pc' := 49) (hb hy d15_5) (XT.ii_le_t (by decide)) (by decide) rfl ?_
  refine o_iloadN W0 (pc' := 50) (hb hy d15_49) rfl rfl ?_
  refine o_iloadN W0 (pc' := 51) (hb hy d15_50) rfl rfl ?_
  refine o_icmpN W0 (pc' := 54) (hb hy d15_51) (XT.ii_ge_f (by decide)) rfl ?_
  refine o_aloadN W0 (pc' := 55) (hb hy d15_54) rfl rfl rfl ?_
  refine o_iloadN W0 (pc' := 56) (hb hy d15_55) rfl rfl ?_
  refine o_baload W0 V_a1 (x := (StrChars.lo8 x1)) (i := 0) (by decide) (by decide) (by decide) rfl (pc' := 57) (hb hy d15_56) rfl ?_
  refine o_aloadN W0 (pc' := 58) (hb hy d15_57) rfl rfl rfl ?_
  refine o_iloadN W0 (pc' := 59) (hb hy d15_58) rfl rfl ?_
  refine o_baload W0 V_a2 (x := (StrChars.lo8 x3)) (i := 0) (by decide) (by decide) (by decide) rfl (pc' := 60) (hb hy d15_59) rfl ?_
  refine o_icmpY W0 (pc' := 65) (hb hy d15_60) (XT.ii_eq_t hc1) (by decide) rfl ?_
  refine o_iinc W0 (v := 1) (L' := #[.val (.ref a1), .val (.ref a2), .val (.int 2), .val (.int 1)]) (pc' := 68) (hb hy d15_65) rfl (by decide) rfl rfl ?_
  refine o_goto W0 (pc' := 49) (hb hy d15_68) (by decide) rfl ?_
  refine o_iloadN W0 (pc' := 50) (hb hy d15_49) rfl rfl ?_
  refine o_iloadN W0 (pc' := 51) (hb hy d15_50) rfl rfl ?_
  refine o_icmpN W0 (pc' := 54) (hb hy d15_51) (XT.ii_ge_f (by decide)) rfl ?_
  refine o_aloadN W0 (pc' := 55) (hb hy d15_54) rfl rfl rfl ?_
  refine o_iloadN W0 (pc' := 56) (hb hy d15_55) rfl rfl ?_
  refine o_baload W0 V_a1 (x := (StrChars.lo8 x2)) (i := 1) (by decide) (by decide) (by decide) rfl (pc' := 57) (hb hy d15_56) rfl ?_
  refine o_aloadN W0 (pc' := 58) (hb hy d15_57) rfl rfl rfl ?_
  refine o_iloadN W0 (pc' := 59) (hb hy d15_58) rfl rfl ?_
  refine o_baload W0 V_a2 (x := (StrChars.lo8 x4)) (i := 1) (by decide) (by decide) (by decide) rfl (pc' := 60) (hb hy d15_59) rfl ?_
  refine o_icmpY W0 (pc' := 65) (hb hy d15_60) (XT.ii_eq_t hc2) (by decide) rfl ?_
  refine o_iinc W0 (v := 2) (L' := #[.val (.ref a1), .val (.ref a2), .val (.int 2), .val (.int 2)]) (pc' := 68) (hb hy d15_65) rfl (by decide) rfl rfl ?_
  refine o_goto W0 (pc' := 49) (hb hy d15_68) (by decide) rfl ?_
  refine o_iloadN W0 (pc' := 50) (hb hy d15_49) rfl rfl ?_
  refine o_iloadN W0 (pc' := 51) (hb hy d15_50) rfl rfl ?_
  refine o_icmpY W0 (pc' := 71) (hb hy d15_51) (XT.ii_ge_t (by decide)) (by decide) rfl ?_
  refine o_iconst W0 (v := (-1 : Int32)) (pc' := 72) (hb hy d15_71) (by decide) rfl ?_
  exact o_retI W0 hlk hret (hb hy d15_72) (by decide) (by decide) rfl
theorem rm6 (l : Launch) (Z : State) (a0 : Array Value) (hw : ∀ d ∈ tables_1, d.before a0 Z = true) (a1 a2 : Addr) (k_a1 : ClassId) (x1 x2 : Int32) (k_a2 : ClassId) (x3 x4 : Int32) (h0 : Heap) (O0 : Old Z Z.heap.size h0) (V_a1 : Arv Z h0 a1 k_a1 .byte (2 : Int32) [(.int (StrChars.lo8 x1)), (.int (StrChars.lo8 x2))] (.int 0)) (V_a2 : Arv Z h0 a2 k_a2 .byte (2 : Int32) [(.int (StrChars.lo8 x3)), (.int (StrChars.lo8 x4))] (.int 0)) (hc4 : (StrChars.lo8 x1) = (StrChars.lo8 x3)) (hc5 : (StrChars.lo8 x2) = (StrChars.lo8 x4)) :
    CtrN l Z (⟨"java/lang/StringLatin1", "compareTo", "([B[BII)I"⟩ : MethodName) jdk_43_method_15_code 6 (some .int) [] (⟨1, 0, 0, 15⟩ : Room) #[(.ref a1), (.ref a2), (.int 2), (.int 2)] h0 [] (fun v h => v = some (.int 0)) := by
  refine CtrN.intro (L0 := #[.val (.ref a1), .val (.ref a2), .val (.int 2), .val (.int 2), .unset, .unset]) (plainFor_of_name pn4) O0 (fun m => by first | rfl | (simp [entryFrame, mkF, argsToLocals, Value.category]; done)) ?_
  intro p e s m below meth c T0 hy hml hret hlk hnm W0
  refine o_iloadN W0 (pc' := 1) (hb hy d13_0) rfl rfl ?_
  refine o_iloadN W0 (pc' := 2) (hb hy d13_1) rfl rfl ?_
  refine o_static W0 (y := (⟨"java/lang/Math", "min", "(II)I"⟩ : MethodName)) (w68 hw) (w69 hw) (w70 hw) (w71 hw) (by decide) (argsL := [(.int 2), (.int 2)]) (CtrN.back (Wd := 0) W0 (rm4 l Z a0 hw  h0 W0.old ) (w71 hw) (w70 hw) (by decide) (by decide)) (by rw [hml]; rfl) (lenOf pd4 rfl) (S := []) rfl (by exact Nat.le_of_eq rfl) (pc' := 5) (hb hy d13_2) rfl (cells' := 0) (slots' := 0) rfl rfl (by decide) (by decide) (wy := []) (fun _ _ _ q => ⟨q.1, q.2.1⟩) all0 (fun _ _ => trivial) ?_
  intro v1 T1 h1 lo1 W1 K1 q1
  obtain rfl := q1.2.2
  show Gl _ _ _ _ _ _ _ _ [(.int 2)]
  refine o_istore W1 (L' := #[.val (.ref a1), .val (.ref a2), .val (.int 2), .val (.int 2), .val (.int 2), .unset]) (pc' := 7) (hb hy d13_5) rfl rfl ?_
  refine o_aloadN W1 (pc' := 8) (hb hy d13_7) rfl rfl rfl ?_
  refine o_aloadN W1 (pc' := 9) (hb hy d13_8) rfl rfl rfl ?_
  refine o_iload W1 (pc' := 11) (hb hy d13_9) rfl rfl ?_
  have c2 := (V_a1.keep K1 nin0)
  have c3 := (V_a2.keep K1 nin0)
  refine o_static W1 (y := (⟨"jdk/internal/util/ArraysSupport", "mismatch", "([B[BI)I"⟩ : MethodName)) (w72 hw) (w73 hw) (w74 hw) (w75 hw) (by decide) (argsL := [(.ref a1), (.ref a2), (.int 2)]) (CtrN.back (Wd := 0) W1 (rm5 l Z a0 hw a1 a2 k_a1 x1 x2 k_a2 x3 x4 h1 W1.old c2 c3 hc4 hc5) (w75 hw) (w74 hw) (by decide) (by decide)) (by rw [hml]; rfl) (lenOf pd5 rfl) (S := []) rfl (by exact Nat.le_of_eq rfl) (pc' := 14) (hb hy d13_11) rfl (cells' := 0) (slots' := 0) rfl rfl (by decide) (by decide) (wy := []) (fun _ _ _ q => ⟨q.1, q.2.1⟩) all0 (fun _ _ => trivial) ?_
  intro v6 T6 h6 lo6 W6 K6 q6
  obtain rfl := q6.2.2
  show Gl _ _ _ _ _ _ _ _ [(.int (-1 : Int32))]
  refine o_istore W6 (L' := #[.val (.ref a1), .val (.ref a2), .val (.int 2), .val (.int 2), .val (.int 2), .val (.int (-1 : Int32))]) (pc' := 16) (hb hy d13_14) rfl rfl ?_
  refine o_iload W6 (pc' := 18) (hb hy d13_16) rfl rfl ?_
  refine o_ifN W6 (pc' := 21) (hb hy d13_18) (XT.i0_ge_f (by decide)) rfl ?_
  refine o_iloadN W6 (pc' := 22) (hb hy d13_21) rfl rfl ?_
  refine o_iloadN W6 (pc' := 23) (hb hy d13_22) rfl rfl ?_
  refine o_isub W6 (v := 0) (pc' := 24) (hb hy d13_23) (by decide) rfl ?_
  refine o_goto W6 (pc' := 40) (hb hy d13_24) (by decide) rfl ?_
  exact o_retI W6 hlk hret (hb hy d13_40) (by decide) (by decide) rfl
theorem rm7 (l : Launch) (Z : State) (a0 : Array Value) (hw : ∀ d ∈ tables_1, d.before a0 Z = true) (a1 a2 : Addr) (k_a1 : ClassId) (x1 x2 : Int32) (k_a2 : ClassId) (x3 x4 : Int32) (h0 : Heap) (O0 : Old Z Z.heap.size h0) (V_a1 : Arv Z h0 a1 k_a1 .byte (2 : Int32) [(.int (StrChars.lo8 x1)), (.int (StrChars.lo8 x2))] (.int 0)) (V_a2 : Arv Z h0 a2 k_a2 .byte (2 : Int32) [(.int (StrChars.lo8 x3)), (.int (StrChars.lo8 x4))] (.int 0)) (hc1 : (StrChars.lo8 x1) = (StrChars.lo8 x3)) (hc2 : (StrChars.lo8 x2) = (StrChars.lo8 x4)) :
    CtrN l Z (⟨"java/lang/StringLatin1", "compareTo", "([B[B)I"⟩ : MethodName) jdk_43_method_14_code 4 (some .int) [] (⟨2, 0, 0, 32⟩ : Room) #[(.ref a1), (.ref a2)] h0 [] (fun v h => v = some (.int 0)) := by
  refine CtrN.intro (L0 := #[.val (.ref a1), .val (.ref a2), .unset, .unset]) (plainFor_of_name pn4) O0 (fun m => by first | rfl | (simp [entryFrame, mkF, argsToLocals, Value.category]; done)) ?_
  intro p e s m below meth c T0 hy hml hret hlk hnm W0
  refine o_aloadN W0 (pc' := 1) (hb hy d12_0) rfl rfl rfl ?_
  refine o_len W0 V_a1 (pc' := 2) (hb hy d12_1) rfl ?_
  refine o_istoreN W0 (L' := #[.val (.ref a1), .val (.ref a2), .val (.int 2), .unset]) (pc' := 3) (hb hy d12_2) rfl rfl ?_
  refine o_aloadN W0 (pc' := 4) (hb hy d12_3) rfl rfl rfl ?_
  refine o_len W0 V_a2 (pc' := 5) (hb hy d12_4) rfl ?_
  refine o_istoreN W0 (L' := #[.val (.ref a1), .val (.ref a2), .val (.int 2), .val (.int 2)]) (pc' := 6) (hb hy d12_5) rfl rfl ?_
  refine o_aloadN W0 (pc' := 7) (hb hy d12_6) rfl rfl rfl ?_
  refine o_aloadN W0 (pc' := 8) (hb hy d12_7) rfl rfl rfl ?_
  refine o_iloadN W0 (pc' := 9) (hb hy d12_8) rfl rfl ?_
  refine o_iloadN W0 (pc' := 10) (hb hy d12_9) rfl rfl ?_
  refine o_static W0 (y := (⟨"java/lang/StringLatin1", "compareTo", "([B[BII)I"⟩ : MethodName)) (w65 hw) (w66 hw) (w63 hw) (w67 hw) (by decide) (argsL := [(.ref a1), (.ref a2), (.int 2), (.int 2)]) (CtrN.back (Wd := 0) W0 (rm6 l Z a0 hw a1 a2 k_a1 x1 x2 k_a2 x3 x4 h0 W0.old V_a1 V_a2 hc1 hc2) (w67 hw) (w63 hw) (by decide) (by decide)) (by rw [hml]; rfl) (lenOf pd6 rfl) (S := []) rfl (by exact Nat.le_of_eq rfl) (pc' := 13) (hb hy d12_10) rfl (cells' := 0) (slots' := 0) rfl rfl (by decide) (by decide) (wy := []) (fun _ _ _ q => ⟨q.1, q.2.1⟩) all0 (fun _ _ => trivial) ?_
  intro v3 T3 h3 lo3 W3 K3 q3
  obtain rfl := q3.2.2
  show Gl _ _ _ _ _ _ _ _ [(.int 0)]
  exact o_retI W3 hlk hret (hb hy d12_13) (by decide) (by decide) rfl
theorem rm8 (l : Launch) (Z : State) (a0 : Array Value) (hw : ∀ d ∈ tables_1, d.before a0 Z = true) (gCS : Int32) (a1 a2 a3 a4 : Addr) (k_a3 : ClassId) (x1 x2 : Int32) (k_a4 : ClassId) (x3 x4 : Int32) (h0 : Heap) (O0 : Old Z Z.heap.size h0) (F_a1_value : Fld Z h0 a1 "java/lang/String" "value" "[B" (.ref a3)) (F_a2_value : Fld Z h0 a2 "java/lang/String" "value" "[B" (.ref a4)) (E_a1 : Exa Z h0 a1 "java/lang/String") (SgCS : Sta Z Z.heap "java/lang/String" "COMPACT_STRINGS" "Z" (.int gCS)) (NgCS : ¬ (gCS = (0 : Int32))) (F_a1_coder : Fld Z h0 a1 "java/lang/String" "coder" "B" (.int 0)) (E_a2 : Exa Z h0 a2 "java/lang/String") (F_a2_coder : Fld Z h0 a2 "java/lang/String" "coder" "B" (.int 0)) (V_a3 : Arv Z h0 a3 k_a3 .byte (2 : Int32) [(.int (StrChars.lo8 x1)), (.int (StrChars.lo8 x2))] (.int 0)) (V_a4 : Arv Z h0 a4 k_a4 .byte (2 : Int32) [(.int (StrChars.lo8 x3)), (.int (StrChars.lo8 x4))] (.int 0)) (hc9 : (StrChars.lo8 x1) = (StrChars.lo8 x3)) (hc10 : (StrChars.lo8 x2) = (StrChars.lo8 x4)) :
    CtrN l Z (⟨"java/lang/String", "compareTo", "(Ljava/lang/String;)I"⟩ : MethodName) jdk_42_method_71_code 5 (some .int) [] (⟨3, 0, 0, 47⟩ : Room) #[(.ref a1), (.ref a2)] h0 [] (fun v h => v = some (.int 0)) := by
  refine CtrN.intro (L0 := #[.val (.ref a1), .val (.ref a2), .unset, .unset, .unset]) (plainFor_of_name pn2) O0 (fun m => by first | rfl | (simp [entryFrame, mkF, argsToLocals, Value.category]; done)) ?_
  intro p e s m below meth c T0 hy hml hret hlk hnm W0
  refine o_aloadN W0 (pc' := 1) (hb hy d10_0) rfl rfl rfl ?_
  refine o_getF W0 (w28 hw) Via.refl F_a1_value (pc' := 4) (hb hy d10_1) rfl ?_
  intro T1 W1
  refine o_astoreN W1 (L' := #[.val (.ref a1), .val (.ref a2), .val (.ref a3), .unset, .unset]) (pc' := 5) (hb hy d10_4) rfl rfl rfl ?_
  refine o_aloadN W1 (pc' := 6) (hb hy d10_5) rfl rfl rfl ?_
  refine o_getF W1 (w28 hw) Via.refl F_a2_value (pc' := 9) (hb hy d10_6) rfl ?_
  intro T2 W2
  refine o_astoreN W2 (L' := #[.val (.ref a1), .val (.ref a2), .val (.ref a3), .val (.ref a4), .unset]) (pc' := 10) (hb hy d10_9) rfl rfl rfl ?_
  refine o_aloadN W2 (pc' := 11) (hb hy d10_10) rfl rfl rfl ?_
  refine o_virtual W2 (y := (⟨"java/lang/String", "coder", "()B"⟩ : MethodName)) (z := (⟨"java/lang/String", "coder", "()B"⟩ : MethodName)) (w56 hw) (w57 hw) (o_nf W2 rfl (w59 hw)) (w59 hw) (w58 hw) (by decide) E_a1 (argsL := []) (CtrN.back (Wd := 0) W2 (rm3 l Z a0 hw gCS a1 h0 W2.old SgCS NgCS F_a1_coder) (w60 hw) (w3 hw) (by decide) (by decide)) (by rw [hml]; rfl) (lenOf pd3 rfl) (S := []) rfl (by exact Nat.le_of_eq rfl) (pc' := 14) (hb hy d10_11) rfl (cells' := 0) (slots' := 0) rfl rfl (by decide) (by decide) (wy := []) (fun _ _ _ q => ⟨q.1, q.2.1⟩) all0 (fun _ _ => trivial) ?_
  intro v3 T3 h3 lo3 W3 K3 q3
  obtain rfl := q3.2.2
  show Gl _ _ _ _ _ _ _ _ [(.int 0)]
  refine o_istore W3 (L' := #[.val (.ref a1), .val (.ref a2), .val (.ref a3), .val (.ref a4), .val (.int 0)]) (pc' := 16) (hb hy d10_14) rfl rfl ?_
  refine o_iload W3 (pc' := 18) (hb hy d10_16) rfl rfl ?_
  refine o_aloadN W3 (pc' := 19) (hb hy d10_18) rfl rfl rfl ?_
  have c4 := (E_a2.keep K3)
  have c5 := (F_a2_coder.keep K3 nin0)
  refine o_virtual W3 (y := (⟨"java/lang/String", "coder", "()B"⟩ : MethodName)) (z := (⟨"java/lang/String", "coder", "()B"⟩ : MethodName)) (w56 hw) (w57 hw) (o_nf W3 rfl (w59 hw)) (w59 hw) (w58 hw) (by decide) c4 (argsL := []) (CtrN.back (Wd := 1) W3 (rm3 l Z a0 hw gCS a2 h3 W3.old SgCS NgCS c5) (w60 hw) (w3 hw) (by decide) (by decide)) (by rw [hml]; rfl) (lenOf pd3 rfl) (S := [(.int 0)]) rfl (by exact Nat.le_of_eq rfl) (pc' := 22) (hb hy d10_19) rfl (cells' := 0) (slots' := 0) rfl rfl (by decide) (by decide) (wy := []) (fun _ _ _ q => ⟨q.1, q.2.1⟩) all0 (fun _ _ => trivial) ?_
  intro v6 T6 h6 lo6 W6 K6 q6
  obtain rfl := q6.2.2
  show Gl _ _ _ _ _ _ _ _ [(.int 0), (.int 0)]
  refine o_icmpN W6 (pc' := 25) (hb hy d10_22) (XT.ii_ne_f (by decide)) rfl ?_
  refine o_iload W6 (pc' := 27) (hb hy d10_25) rfl rfl ?_
  refine o_ifN W6 (pc' := 30) (hb hy d10_27) (XT.i0_ne_f (by decide)) rfl ?_
  refine o_aloadN W6 (pc' := 31) (hb hy d10_30) rfl rfl rfl ?_
  refine o_aloadN W6 (pc' := 32) (hb hy d10_31) rfl rfl rfl ?_
  have c7 := ((V_a3.keep K3 nin0).keep K6 nin0)
  have c8 := ((V_a4.keep K3 nin0).keep K6 nin0)
  refine o_static W6 (y := (⟨"java/lang/StringLatin1", "compareTo", "([B[B)I"⟩ : MethodName)) (w61 hw) (w62 hw) (w63 hw) (w64 hw) (by decide) (argsL := [(.ref a3), (.ref a4)]) (CtrN.back (Wd := 0) W6 (rm7 l Z a0 hw a3 a4 k_a3 x1 x2 k_a4 x3 x4 h6 W6.old c7 c8 hc9 hc10) (w64 hw) (w63 hw) (by decide) (by decide)) (by rw [hml]; rfl) (lenOf pd7 rfl) (S := []) rfl (by exact Nat.le_of_eq rfl) (pc' := 35) (hb hy d10_32) rfl (cells' := 0) (slots' := 0) rfl rfl (by decide) (by decide) (wy := []) (fun _ _ _ q => ⟨q.1, q.2.1⟩) all0 (fun _ _ => trivial) ?_
  intro v11 T11 h11 lo11 W11 K11 q11
  obtain rfl := q11.2.2
  show Gl _ _ _ _ _ _ _ _ [(.int 0)]
  refine o_goto W11 (pc' := 43) (hb hy d10_35) (by decide) rfl ?_
  exact o_retI W11 hlk hret (hb hy d10_43) (by decide) (by decide) rfl
theorem rm9 (l : Launch) (Z : State) (a0 : Array Value) (hw : ∀ d ∈ tables_1, d.before a0 Z = true) (gCS : Int32) (gN a1 a2 a3 a4 a5 : Addr) (k_a4 : ClassId) (x1 x2 : Int32) (k_a5 : ClassId) (x3 x4 : Int32) (h0 : Heap) (O0 : Old Z Z.heap.size h0) (SgN_NON_COMMUTING : Sta Z Z.heap "com/example/plebiscite/plebiscite/core/Constraint$Kind" "NON_COMMUTING" "Lcom/example/plebiscite/plebiscite/core/Constraint$Kind;" (.ref gN)) (E_a2 : Exa Z h0 a2 "java/lang/String") (F_a2_value : Fld Z h0 a2 "java/lang/String" "value" "[B" (.ref a4)) (F_a3_value : Fld Z h0 a3 "java/lang/String" "value" "[B" (.ref a5)) (SgCS : Sta Z Z.heap "java/lang/String" "COMPACT_STRINGS" "Z" (.int gCS)) (NgCS : ¬ (gCS = (0 : Int32))) (F_a2_coder : Fld Z h0 a2 "java/lang/String" "coder" "B" (.int 0)) (E_a3 : Exa Z h0 a3 "java/lang/String") (F_a3_coder : Fld Z h0 a3 "java/lang/String" "coder" "B" (.int 0)) (V_a4 : Arv Z h0 a4 k_a4 .byte (2 : Int32) [(.int (StrChars.lo8 x1)), (.int (StrChars.lo8 x2))] (.int 0)) (V_a5 : Arv Z h0 a5 k_a5 .byte (2 : Int32) [(.int (StrChars.lo8 x3)), (.int (StrChars.lo8 x4))] (.int 0)) (hc11 : (StrChars.lo8 x1) = (StrChars.lo8 x3)) (hc12 : (StrChars.lo8 x2) = (StrChars.lo8 x4)) (E_a1 : Exa Z h0 a1 "com/example/plebiscite/plebiscite/core/Constraint") (F_a1_kind : Fld Z h0 a1 "com/example/plebiscite/plebiscite/core/Constraint" "kind" "Lcom/example/plebiscite/plebiscite/core/Constraint$Kind;" .null) (g_a1 : Z.heap.size ≤ a1) (F_a1_first : Fld Z h0 a1 "com/example/plebiscite/plebiscite/core/Constraint" "first" "Ljava/lang/String;" .null) (F_a1_second : Fld Z h0 a1 "com/example/plebiscite/plebiscite/core/Constraint" "second" "Ljava/lang/String;" .null) :
    CtrN l Z (⟨"com/example/plebiscite/plebiscite/core/Constraint", "<init>", "(Lcom/example/plebiscite/plebiscite/core/Constraint$Kind;Ljava/lang/String;Ljava/lang/String;)V"⟩ : MethodName) prog_19_method_1_code 5 none [] (⟨4, 0, 0, 63⟩ : Room) #[(.ref a1), (.ref gN), (.ref a2), (.ref a3)] h0 [a1] (fun v h => Fld Z h a1 "com/example/plebiscite/plebiscite/core/Constraint" "kind" "Lcom/example/plebiscite/plebiscite/core/Constraint$Kind;" (.ref gN) ∧ Fld Z h a1 "com/example/plebiscite/plebiscite/core/Constraint" "first" "Ljava/lang/String;" (.ref a2) ∧ Fld Z h a1 "com/example/plebiscite/plebiscite/core/Constraint" "second" "Ljava/lang/String;" (.ref a3) ∧ v = none) := by
  refine CtrN.intro (L0 := #[.val (.ref a1), .val (.ref gN), .val (.ref a2), .val (.ref a3), .unset]) (plainFor_of_name pn5) O0 (fun m => by first | rfl | (simp [entryFrame, mkF, argsToLocals, Value.category]; done)) ?_
  intro p e s m below meth c T0 hy hml hret hlk hnm W0
  refine o_aloadN W0 (pc' := 1) (hb hy d8_0) rfl rfl rfl ?_
  refine o_special W0 (y := (⟨"java/lang/Record", "<init>", "()V"⟩ : MethodName)) rfl (w44 hw) (w45 hw) (w48 hw) (by decide) (a := a1) (argsL := []) (CtrN.back (Wd := 0) W0 (rm2 l Z a0 hw a1 h0 W0.old ) (w48 hw) (w47 hw) (by decide) (by decide)) (by rw [hml]; rfl) (lenOf pd2 rfl) (S := []) rfl (by exact Nat.le_of_eq rfl) (pc' := 4) (hb hy d8_1) rfl (cells' := 0) (slots' := 0) rfl rfl (by decide) (by decide) (wy := []) (fun _ _ _ q => ⟨q.1, q.2.1⟩) all0 (fun _ _ => trivial) ?_
  intro v1 T1 h1 lo1 W1 K1 q1
  obtain rfl := q1.2.2
  show Gl _ _ _ _ _ _ _ _ []
  refine o_aloadN W1 (pc' := 5) (hb hy d8_4) rfl rfl rfl ?_
  refine o_getS W1 (w50 hw) Via.refl (SgN_NON_COMMUTING.ext W1.ox) (pc' := 8) (hb hy d8_5) rfl ?_
  intro T2 W2
  refine o_acmpN W2 (pc' := 11) (hb hy d8_8) rfl rfl (XT.aa_ne_f rfl) rfl ?_
  refine o_aloadN W2 (pc' := 12) (hb hy d8_11) rfl rfl rfl ?_
  refine o_aloadN W2 (pc' := 13) (hb hy d8_12) rfl rfl rfl ?_
  have c3 := (E_a2.keep K1)
  have c4 := (F_a2_value.keep K1 nin0)
  have c5 := (F_a3_value.keep K1 nin0)
  have c6 := (F_a2_coder.keep K1 nin0)
  have c7 := (E_a3.keep K1)
  have c8 := (F_a3_coder.keep K1 nin0)
  have c9 := (V_a4.keep K1 nin0)
  have c10 := (V_a5.keep K1 nin0)
  refine o_virtual W2 (y := (⟨"java/lang/String", "compareTo", "(Ljava/lang/String;)I"⟩ : MethodName)) (z := (⟨"java/lang/String", "compareTo", "(Ljava/lang/String;)I"⟩ : MethodName)) (w51 hw) (w52 hw) (o_nf W2 rfl (w54 hw)) (w54 hw) (w53 hw) (by decide) c3 (argsL := [(.ref a3)]) (CtrN.back (Wd := 0) W2 (rm8 l Z a0 hw gCS a2 a3 a4 a5 k_a4 x1 x2 k_a5 x3 x4 h1 W2.old c4 c5 c3 SgCS NgCS c6 c7 c8 c9 c10 hc11 hc12) (w55 hw) (w3 hw) (by decide) (by decide)) (by rw [hml]; rfl) (lenOf pd8 rfl) (S := []) rfl (by exact Nat.le_of_eq rfl) (pc' := 16) (hb hy d8_13) rfl (cells' := 0) (slots' := 0) rfl rfl (by decide) (by decide) (wy := []) (fun _ _ _ q => ⟨q.1, q.2.1⟩) all0 (fun _ _ => trivial) ?_
  intro v13 T13 h13 lo13 W13 K13 q13
  obtain rfl := q13.2.2
  show Gl _ _ _ _ _ _ _ _ [(.int 0)]
  refine o_ifY W13 (pc' := 27) (hb hy d8_16) (XT.i0_le_t (by decide)) (by decide) rfl ?_
  refine o_aloadN W13 (pc' := 28) (hb hy d8_27) rfl rfl rfl ?_
  refine o_aloadN W13 (pc' := 29) (hb hy d8_28) rfl rfl rfl ?_
  have c14 := ((E_a1.keep K1).keep K13)
  have c15 := ((F_a1_kind.keep K1 nin0).keep K13 nin0)
  refine o_putF W13 (w79 hw) Via.refl c15 c14 (Or.inr ⟨(w80 hw), rfl, hnm⟩) (w31 hw) (ty := (.object "com/example/plebiscite/plebiscite/core/Constraint$Kind")) (v' := (.ref gN)) (by decide) rfl rfl g_a1 (Or.inl (List.mem_of_getElem? (i := 0) rfl)) (fun _ _ => trivial) (pc' := 32) (hb hy d8_29) rfl ?_
  intro T16 h16 lo16 W16 R16
  have F16 := c15.same R16
  refine o_aloadN W16 (pc' := 33) (hb hy d8_32) rfl rfl rfl ?_
  refine o_aloadN W16 (pc' := 34) (hb hy d8_33) rfl rfl rfl ?_
  have c17 := (c14.wr R16)
  have c18 := (((F_a1_first.keep K1 nin0).keep K13 nin0).other R16 (Or.inr (slot_ne (Or.inr (w82 hw)) (Or.inr (w80 hw)) (by decide) (t := (.object "java/lang/String")) (t' := (.object "com/example/plebiscite/plebiscite/core/Constraint$Kind")) (by decide) (by decide))))
  refine o_putF W16 (w81 hw) Via.refl c18 c17 (Or.inr ⟨(w82 hw), rfl, hnm⟩) (w31 hw) (ty := (.object "java/lang/String")) (v' := (.ref a2)) (by decide) rfl rfl g_a1 (Or.inl (List.mem_of_getElem? (i := 0) rfl)) (fun _ _ => trivial) (pc' := 37) (hb hy d8_34) rfl ?_
  intro T19 h19 lo19 W19 R19
  have F19 := c18.same R19
  refine o_aloadN W19 (pc' := 38) (hb hy d8_37) rfl rfl rfl ?_
  refine o_aloadN W19 (pc' := 39) (hb hy d8_38) rfl rfl rfl ?_
  have c20 := (c17.wr R19)
  have c21 := ((((F_a1_second.keep K1 nin0).keep K13 nin0).other R16 (Or.inr (slot_ne (Or.inr (w84 hw)) (Or.inr (w80 hw)) (by decide) (t := (.object "java/lang/String")) (t' := (.object "com/example/plebiscite/plebiscite/core/Constraint$Kind")) (by decide) (by decide)))).other R19 (Or.inr (slot_ne (Or.inr (w84 hw)) (Or.inr (w82 hw)) (by decide) (t := (.object "java/lang/String")) (t' := (.object "java/lang/String")) (by decide) (by decide))))
  refine o_putF W19 (w83 hw) Via.refl c21 c20 (Or.inr ⟨(w84 hw), rfl, hnm⟩) (w31 hw) (ty := (.object "java/lang/String")) (v' := (.ref a3)) (by decide) rfl rfl g_a1 (Or.inl (List.mem_of_getElem? (i := 0) rfl)) (fun _ _ => trivial) (pc' := 42) (hb hy d8_39) rfl ?_
  intro T22 h22 lo22 W22 R22
  have F22 := c21.same R22
  have c23 := ((F16.other R19 (Or.inr (slot_ne (Or.inr (w80 hw)) (Or.inr (w82 hw)) (by decide) (t := (.object "com/example/plebiscite/plebiscite/core/Constraint$Kind")) (t' := (.object "java/lang/String")) (by decide) (by decide)))).other R22 (Or.inr (slot_ne (Or.inr (w80 hw)) (Or.inr (w84 hw)) (by decide) (t := (.object "com/example/plebiscite/plebiscite/core/Constraint$Kind")) (t' := (.object "java/lang/String")) (by decide) (by decide))))
  have c24 := (F19.other R22 (Or.inr (slot_ne (Or.inr (w82 hw)) (Or.inr (w84 hw)) (by decide) (t := (.object "java/lang/String")) (t' := (.object "java/lang/String")) (by decide) (by decide))))
  have c25 := (c20.wr R22)
  exact o_ret0 W22 hlk hret (hb hy d8_42) (by decide) (by decide) ⟨c23, c24, F22, rfl⟩
theorem rm10 (l : Launch) (Z : State) (a0 : Array Value) (hw : ∀ d ∈ tables_1, d.before a0 Z = true) (gCS : Int32) (a1 a2 a3 a4 : Addr) (k_a4 : ClassId) (x1 x2 : Int32) (a5 : Addr) (k_a5 : ClassId) (a6 : Addr) (h0 : Heap) (O0 : Old Z Z.heap.size h0) (F_a1_first : Fld Z h0 a1 "com/example/plebiscite/plebiscite/core/Constraint" "first" "Ljava/lang/String;" (.ref a3)) (E_a3 : Exa Z h0 a3 "java/lang/String") (SgCS : Sta Z Z.heap "java/lang/String" "COMPACT_STRINGS" "Z" (.int gCS)) (NgCS : ¬ (gCS = (0 : Int32))) (F_a3_value : Fld Z h0 a3 "java/lang/String" "value" "[B" (.ref a4)) (F_a3_coder : Fld Z h0 a3 "java/lang/String" "coder" "B" (.int 0)) (V_a4 : Arv Z h0 a4 k_a4 .byte (2 : Int32) [(.int (StrChars.lo8 x1)), (.int (StrChars.lo8 x2))] (.int 0)) (hu2 : own_b x1) (hu3 : own_b x2) (E_a2 : Exa Z h0 a2 "java/lang/String") (F_a2_value : Fld Z h0 a2 "java/lang/String" "value" "[B" (.ref a5)) (F_a2_coder : Fld Z h0 a2 "java/lang/String" "coder" "B" (.int 0)) (V_a5 : Arv Z h0 a5 k_a5 .byte (2 : Int32) [(.int (StrChars.lo8 x1)), (.int (StrChars.lo8 x2))] (.int 0)) (F_a1_second : Fld Z h0 a1 "com/example/plebiscite/plebiscite/core/Constraint" "second" "Ljava/lang/String;" (.ref a6)) :
    CtrN l Z (⟨"com/example/plebiscite/plebiscite/core/Constraint", "other", "(Ljava/lang/String;)Ljava/lang/String;"⟩ : MethodName) prog_19_method_7_code 2 (some (.object "java/lang/String")) [] (⟨2, 0, 0, 28⟩ : Room) #[(.ref a1), (.ref a2)] h0 [] (fun v h => v = some (.ref a6)) := by
  refine CtrN.intro (L0 := #[.val (.ref a1), .val (.ref a2)]) (plainFor_of_name pn5) O0 (fun m => by first | rfl | (simp [entryFrame, mkF, argsToLocals, Value.category]; done)) ?_
  intro p e s m below meth c T0 hy hml hret hlk hnm W0
  refine o_aloadN W0 (pc' := 1) (hb hy d17_0) rfl rfl rfl ?_
  refine o_getF W0 (w81 hw) Via.refl F_a1_first (pc' := 4) (hb hy d17_1) rfl ?_
  intro T1 W1
  refine o_aloadN W1 (pc' := 5) (hb hy d17_4) rfl rfl rfl ?_
  have ok4 : own_ok [x1, x2] := ⟨by simp only [List.mem_cons, List.not_mem_nil, or_false, forall_eq_or_imp, forall_eq, false_imp_iff, implies_true]; exact ⟨hu2, hu3⟩, Nat.le_of_ble_eq_true rfl⟩
  have ok5 : own_ok [x1, x2] := ⟨by simp only [List.mem_cons, List.not_mem_nil, or_false, forall_eq_or_imp, forall_eq, false_imp_iff, implies_true]; exact ⟨hu2, hu3⟩, Nat.le_of_ble_eq_true rfl⟩
  refine o_virtual W1 (y := (⟨"java/lang/String", "equals", "(Ljava/lang/Object;)Z"⟩ : MethodName)) (z := (⟨"java/lang/String", "equals", "(Ljava/lang/Object;)Z"⟩ : MethodName)) (kc := 0) (ks := 0) (Q := fun v hh L => ((v = some (.int 1) ∧ [x1, x2] = [x1, x2]) ∨ (v = some (.int 0) ∧ ¬ [x1, x2] = [x1, x2])) ∧ L = [] ∧ hh = h0) (w90 hw) (w91 hw) (o_nf W1 rfl (w93 hw)) (w93 hw) (w92 hw) (by decide) E_a3 (argsL := [(.ref a2)]) (StrChars.Road.eqW (W := 0) W1.2.2.2.1 (own_hE hw) (kI := 4) (w2 hw) E_a3 F_a3_value F_a3_coder V_a4 (own_cod ok4) (own_up ok4) ok4.2 E_a2 F_a2_value F_a2_coder V_a5 (own_cod ok5) (own_up ok5) ok5.2 (SgCS.ext W1.ox) NgCS (by decide) (by decide)) (by rw [hml]; rfl) (lenOf pd10 rfl) (S := []) rfl (by exact Nat.le_of_eq rfl) (pc' := 8) (hb hy d17_5) rfl (cells' := 0) (slots' := 0) rfl rfl (by decide) (by decide) (wy := []) (fun _ _ _ q => own_same q.2) all0 (fun _ _ => trivial) ?_
  intro v6 T6 h6 lo6 W6 K6 q6
  obtain rfl := own_eqv q6.1
  show Gl _ _ _ _ _ _ _ _ [(.int (own_eq [x1, x2] [x1, x2]))]
  refine o_ifN W6 (pc' := 11) (hb hy d17_8) (XT.i0_eq_f (own_eqne _)) rfl ?_
  refine o_aloadN W6 (pc' := 12) (hb hy d17_11) rfl rfl rfl ?_
  have c7 := (F_a1_second.keep K6 nin0)
  refine o_getF W6 (w83 hw) Via.refl c7 (pc' := 15) (hb hy d17_12) rfl ?_
  intro T8 W8
  refine o_goto W8 (pc' := 22) (hb hy d17_15) (by decide) rfl ?_
  exact o_retA W8 hlk (v := (.ref a6)) hret rfl rfl (hb hy d17_22) (by decide) (by decide) rfl
theorem rm11 (l : Launch) (Z : State) (a0 : Array Value) (hw : ∀ d ∈ tables_1, d.before a0 Z = true) (gCS : Int32) (a1 a2 a3 a4 : Addr) (k_a4 : ClassId) (x1 x2 : Int32) (a5 : Addr) (k_a5 : ClassId) (x3 x4 : Int32) (h0 : Heap) (O0 : Old Z Z.heap.size h0) (F_a1_first : Fld Z h0 a1 "com/example/plebiscite/plebiscite/core/Constraint" "first" "Ljava/lang/String;" (.ref a3)) (E_a3 : Exa Z h0 a3 "java/lang/String") (SgCS : Sta Z Z.heap "java/lang/String" "COMPACT_STRINGS" "Z" (.int gCS)) (NgCS : ¬ (gCS = (0 : Int32))) (F_a3_value : Fld Z h0 a3 "java/lang/String" "value" "[B" (.ref a4)) (F_a3_coder : Fld Z h0 a3 "java/lang/String" "coder" "B" (.int 0)) (V_a4 : Arv Z h0 a4 k_a4 .byte (2 : Int32) [(.int (StrChars.lo8 x1)), (.int (StrChars.lo8 x2))] (.int 0)) (hu2 : own_b x1) (hu3 : own_b x2) (E_a2 : Exa Z h0 a2 "java/lang/String") (F_a2_value : Fld Z h0 a2 "java/lang/String" "value" "[B" (.ref a5)) (F_a2_coder : Fld Z h0 a2 "java/lang/String" "coder" "B" (.int 0)) (V_a5 : Arv Z h0 a5 k_a5 .byte (2 : Int32) [(.int (StrChars.lo8 x3)), (.int (StrChars.lo8 x4))] (.int 0)) (hu4 : own_b x3) (hu5 : own_b x4) (hc9 : (own_eq [x1, x2] [x3, x4]) = (0 : Int32)) :
    CtrN l Z (⟨"com/example/plebiscite/plebiscite/core/Constraint", "other", "(Ljava/lang/String;)Ljava/lang/String;"⟩ : MethodName) prog_19_method_7_code 2 (some (.object "java/lang/String")) [] (⟨2, 0, 0, 28⟩ : Room) #[(.ref a1), (.ref a2)] h0 [] (fun v h => v = some (.ref a3)) := by
  refine CtrN.intro (L0 := #[.val (.ref a1), .val (.ref a2)]) (plainFor_of_name pn5) O0 (fun m => by first | rfl | (simp [entryFrame, mkF, argsToLocals, Value.category]; done)) ?_
  intro p e s m below meth c T0 hy hml hret hlk hnm W0
  refine o_aloadN W0 (pc' := 1) (hb hy d17_0) rfl rfl rfl ?_
  refine o_getF W0 (w81 hw) Via.refl F_a1_first (pc' := 4) (hb hy d17_1) rfl ?_
  intro T1 W1
  refine o_aloadN W1 (pc' := 5) (hb hy d17_4) rfl rfl rfl ?_
  have ok6 : own_ok [x1, x2] := ⟨by simp only [List.mem_cons, List.not_mem_nil, or_false, forall_eq_or_imp, forall_eq, false_imp_iff, implies_true]; exact ⟨hu2, hu3⟩, Nat.le_of_ble_eq_true rfl⟩
  have ok7 : own_ok [x3, x4] := ⟨by simp only [List.mem_cons, List.not_mem_nil, or_false, forall_eq_or_imp, forall_eq, false_imp_iff, implies_true]; exact ⟨hu4, hu5⟩, Nat.le_of_ble_eq_true rfl⟩
  refine o_virtual W1 (y := (⟨"java/lang/String", "equals", "(Ljava/lang/Object;)Z"⟩ : MethodName)) (z := (⟨"java/lang/String", "equals", "(Ljava/lang/Object;)Z"⟩ : MethodName)) (kc := 0) (ks := 0) (Q := fun v hh L => ((v = some (.int 1) ∧ [x1, x2] = [x3, x4]) ∨ (v = some (.int 0) ∧ ¬ [x1, x2] = [x3, x4])) ∧ L = [] ∧ hh = h0) (w90 hw) (w91 hw) (o_nf W1 rfl (w93 hw)) (w93 hw) (w92 hw) (by decide) E_a3 (argsL := [(.ref a2)]) (StrChars.Road.eqW (W := 0) W1.2.2.2.1 (own_hE hw) (kI := 4) (w2 hw) E_a3 F_a3_value F_a3_coder V_a4 (own_cod ok6) (own_up ok6) ok6.2 E_a2 F_a2_value F_a2_coder V_a5 (own_cod ok7) (own_up ok7) ok7.2 (SgCS.ext W1.ox) NgCS (by decide) (by decide)) (by rw [hml]; rfl) (lenOf pd10 rfl) (S := []) rfl (by exact Nat.le_of_eq rfl) (pc' := 8) (hb hy d17_5) rfl (cells' := 0) (slots' := 0) rfl rfl (by decide) (by decide) (wy := []) (fun _ _ _ q => own_same q.2) all0 (fun _ _ => trivial) ?_
  intro v8 T8 h8 lo8 W8 K8 q8
  obtain rfl := own_eqv q8.1
  show Gl _ _ _ _ _ _ _ _ [(.int (own_eq [x1, x2] [x3, x4]))]
  refine o_ifY W8 (pc' := 18) (hb hy d17_8) (XT.i0_eq_t hc9) (by decide) rfl ?_
  refine o_aloadN W8 (pc' := 19) (hb hy d17_18) rfl rfl rfl ?_
  have c10 := (F_a1_first.keep K8 nin0)
  refine o_getF W8 (w81 hw) Via.refl c10 (pc' := 22) (hb hy d17_19) rfl ?_
  intro T11 W11
  exact o_retA W11 hlk (v := (.ref a3)) hret rfl rfl (hb hy d17_22) (by decide) (by decide) rfl
theorem rm12 (l : Launch) (Z : State) (a0 : Array Value) (hw : ∀ d ∈ tables_1, d.before a0 Z = true) (gCS : Int32) (a1 a2 a3 a4 : Addr) (k_a4 : ClassId) (x1 x2 : Int32) (a5 : Addr) (k_a5 : ClassId) (x3 x4 : Int32) (a6 : Addr) (h0 : Heap) (O0 : Old Z Z.heap.size h0) (F_a1_first : Fld Z h0 a1 "com/example/plebiscite/plebiscite/core/Constraint" "first" "Ljava/lang/String;" (.ref a3)) (E_a3 : Exa Z h0 a3 "java/lang/String") (SgCS : Sta Z Z.heap "java/lang/String" "COMPACT_STRINGS" "Z" (.int gCS)) (NgCS : ¬ (gCS = (0 : Int32))) (F_a3_value : Fld Z h0 a3 "java/lang/String" "value" "[B" (.ref a4)) (F_a3_coder : Fld Z h0 a3 "java/lang/String" "coder" "B" (.int 0)) (V_a4 : Arv Z h0 a4 k_a4 .byte (2 : Int32) [(.int (StrChars.lo8 x1)), (.int (StrChars.lo8 x2))] (.int 0)) (hu2 : own_b x1) (hu3 : own_b x2) (E_a2 : Exa Z h0 a2 "java/lang/String") (F_a2_value : Fld Z h0 a2 "java/lang/String" "value" "[B" (.ref a5)) (F_a2_coder : Fld Z h0 a2 "java/lang/String" "coder" "B" (.int 0)) (V_a5 : Arv Z h0 a5 k_a5 .byte (2 : Int32) [(.int (StrChars.lo8 x3)), (.int (StrChars.lo8 x4))] (.int 0)) (hu4 : own_b x3) (hu5 : own_b x4) (hc9 : ¬ ((own_eq [x1, x2] [x3, x4]) = (0 : Int32))) (F_a1_second : Fld Z h0 a1 "com/example/plebiscite/plebiscite/core/Constraint" "second" "Ljava/lang/String;" (.ref a6)) :
    CtrN l Z (⟨"com/example/plebiscite/plebiscite/core/Constraint", "other", "(Ljava/lang/String;)Ljava/lang/String;"⟩ : MethodName) prog_19_method_7_code 2 (some (.object "java/lang/String")) [] (⟨2, 0, 0, 28⟩ : Room) #[(.ref a1), (.ref a2)] h0 [] (fun v h => v = some (.ref a6)) := by
  refine CtrN.intro (L0 := #[.val (.ref a1), .val (.ref a2)]) (plainFor_of_name pn5) O0 (fun m => by first | rfl | (simp [entryFrame, mkF, argsToLocals, Value.category]; done)) ?_
  intro p e s m below meth c T0 hy hml hret hlk hnm W0
  refine o_aloadN W0 (pc' := 1) (hb hy d17_0) rfl rfl rfl ?_
  refine o_getF W0 (w81 hw) Via.refl F_a1_first (pc' := 4) (hb hy d17_1) rfl ?_
  intro T1 W1
  refine o_aloadN W1 (pc' := 5) (hb hy d17_4) rfl rfl rfl ?_
  have ok6 : own_ok [x1, x2] := ⟨by simp only [List.mem_cons, List.not_mem_nil, or_false, forall_eq_or_imp, forall_eq, false_imp_iff, implies_true]; exact ⟨hu2, hu3⟩, Nat.le_of_ble_eq_true rfl⟩
  have ok7 : own_ok [x3, x4] := ⟨by simp only [List.mem_cons, List.not_mem_nil, or_false, forall_eq_or_imp, forall_eq, false_imp_iff, implies_true]; exact ⟨hu4, hu5⟩, Nat.le_of_ble_eq_true rfl⟩
  refine o_virtual W1 (y := (⟨"java/lang/String", "equals", "(Ljava/lang/Object;)Z"⟩ : MethodName)) (z := (⟨"java/lang/String", "equals", "(Ljava/lang/Object;)Z"⟩ : MethodName)) (kc := 0) (ks := 0) (Q := fun v hh L => ((v = some (.int 1) ∧ [x1, x2] = [x3, x4]) ∨ (v = some (.int 0) ∧ ¬ [x1, x2] = [x3, x4])) ∧ L = [] ∧ hh = h0) (w90 hw) (w91 hw) (o_nf W1 rfl (w93 hw)) (w93 hw) (w92 hw) (by decide) E_a3 (argsL := [(.ref a2)]) (StrChars.Road.eqW (W := 0) W1.2.2.2.1 (own_hE hw) (kI := 4) (w2 hw) E_a3 F_a3_value F_a3_coder V_a4 (own_cod ok6) (own_up ok6) ok6.2 E_a2 F_a2_value F_a2_coder V_a5 (own_cod ok7) (own_up ok7) ok7.2 (SgCS.ext W1.ox) NgCS (by decide) (by decide)) (by rw [hml]; rfl) (lenOf pd10 rfl) (S := []) rfl (by exact Nat.le_of_eq rfl) (pc' := 8) (hb hy d17_5) rfl (cells' := 0) (slots' := 0) rfl rfl (by decide) (by decide) (wy := []) (fun _ _ _ q => own_same q.2) all0 (fun _ _ => trivial) ?_
  intro v8 T8 h8 lo8 W8 K8 q8
  obtain rfl := own_eqv q8.1
  show Gl _ _ _ _ _ _ _ _ [(.int (own_eq [x1, x2] [x3, x4]))]
  refine o_ifN W8 (pc' := 11) (hb hy d17_8) (XT.i0_eq_f hc9) rfl ?_
  refine o_aloadN W8 (pc' := 12) (hb hy d17_11) rfl rfl rfl ?_
  have c10 := (F_a1_second.keep K8 nin0)
  refine o_getF W8 (w83 hw) Via.refl c10 (pc' := 15) (hb hy d17_12) rfl ?_
  intro T11 W11
  refine o_goto W11 (pc' := 22) (hb hy d17_15) (by decide) rfl ?_
  exact o_retA W11 hlk (v := (.ref a6)) hret rfl rfl (hb hy d17_22) (by decide) (by decide) rfl
theorem rm13 (l : Launch) (Z : State) (a0 : Array Value) (hw : ∀ d ∈ tables_1, d.before a0 Z = true) (a1 a2 : Addr) (k_a1 : ClassId) (x1 x2 : Int32) (k_a2 : ClassId) (x3 x4 : Int32) (h0 : Heap) (O0 : Old Z Z.heap.size h0) (V_a1 : Arv Z h0 a1 k_a1 .byte (2 : Int32) [(.int (StrChars.lo8 x1)), (.int (StrChars.lo8 x2))] (.int 0)) (V_a2 : Arv Z h0 a2 k_a2 .byte (2 : Int32) [(.int (StrChars.lo8 x3)), (.int (StrChars.lo8 x4))] (.int 0)) (hc1 : (StrChars.lo8 x1) = (StrChars.lo8 x3)) (hc2 : ¬ ((StrChars.lo8 x2) = (StrChars.lo8 x4))) :
    CtrN l Z (⟨"jdk/internal/util/ArraysSupport", "mismatch", "([B[BI)I"⟩ : MethodName) jdk_48_method_13_code 4 (some .int) [] (⟨0, 0, 0, 0⟩ : Room) #[(.ref a1), (.ref a2), (.int 2)] h0 [] (fun v h => v = some (.int 1)) := by
  refine CtrN.intro (L0 := #[.val (.ref a1), .val (.ref a2), .val (.int 2), .unset]) (plainFor_of_name pn3) O0 (fun m => by first | rfl | (simp [entryFrame, mkF, argsToLocals, Value.category]; done)) ?_
  intro p e s m below meth c T0 hy hml hret hlk hnm W0
  refine o_iconst W0 (v := 0) (pc' := 1) (hb hy d15_0) rfl rfl ?_
  refine o_istoreN W0 (L' := #[.val (.ref a1), .val (.ref a2), .val (.int 2), .val (.int 0)]) (pc' := 2) (hb hy d15_1) rfl rfl ?_
  refine o_iloadN W0 (pc' := 3) (hb hy d15_2) rfl rfl ?_
  refine o_bipush W0 (v := 7) (pc' := 5) (hb hy d15_3) (by decide) rfl ?_
  refine o_icmpY W0 (pc' := 49) (hb hy d15_5) (XT.ii_le_t (by decide)) (by decide) rfl ?_
  refine o_iloadN W0 (pc' := 50) (hb hy d15_49) rfl rfl ?_
  refine o_iloadN W0 (pc' := 51) (hb hy d15_50) rfl rfl ?_
  refine o_icmpN W0 (pc' := 54) (hb hy d15_51) (XT.ii_ge_f (by decide)) rfl ?_
  refine o_aloadN W0 (pc' := 55) (hb hy d15_54) rfl rfl rfl ?_
  refine o_iloadN W0 (pc' := 56) (hb hy d15_55) rfl rfl ?_
  refine o_baload W0 V_a1 (x := (StrChars.lo8 x1)) (i := 0) (by decide) (by decide) (by decide) rfl (pc' := 57) (hb hy d15_56) rfl ?_
  refine o_aloadN W0 (pc' := 58) (hb hy d15_57) rfl rfl rfl ?_
  refine o_iloadN W0 (pc' := 59) (hb hy d15_58) rfl rfl ?_
  refine o_baload W0 V_a2 (x := (StrChars.lo8 x3)) (i := 0) (by decide) (by decide) (by decide) rfl (pc' := 60) (hb hy d15_59) rfl ?_
  refine o_icmpY W0 (pc' := 65) (hb hy d15_60) (XT.ii_eq_t hc1) (by decide) rfl ?_
  refine o_iinc W0 (v := 1) (L' := #[.val (.ref a1), .val (.ref a2), .val (.int 2), .val (.int 1)]) (pc' := 68) (hb hy d15_65) rfl (by decide) rfl rfl ?_
  refine o_goto W0 (pc' := 49) (hb hy d15_68) (by decide) rfl ?_
  refine o_iloadN W0 (pc' := 50) (hb hy d15_49) rfl rfl ?_
  refine o_iloadN W0 (pc' := 51) (hb hy d15_50) rfl rfl ?_
  refine o_icmpN W0 (pc' := 54) (hb hy d15_51) (XT.ii_ge_f (by decide)) rfl ?_
  refine o_aloadN W0 (pc' := 55) (hb hy d15_54) rfl rfl rfl ?_
  refine o_iloadN W0 (pc' := 56) (hb hy d15_55) rfl rfl ?_
  refine o_baload W0 V_a1 (x := (StrChars.lo8 x2)) (i := 1) (by decide) (by decide) (by decide) rfl (pc' := 57) (hb hy d15_56) rfl ?_
  refine o_aloadN W0 (pc' := 58) (hb hy d15_57) rfl rfl rfl ?_
  refine o_iloadN W0 (pc' := 59) (hb hy d15_58) rfl rfl ?_
  refine o_baload W0 V_a2 (x := (StrChars.lo8 x4)) (i := 1) (by decide) (by decide) (by decide) rfl (pc' := 60) (hb hy d15_59) rfl ?_
  refine o_icmpN W0 (pc' := 63) (hb hy d15_60) (XT.ii_eq_f hc2) rfl ?_
  refine o_iloadN W0 (pc' := 64) (hb hy d15_63) rfl rfl ?_
  exact o_retI W0 hlk hret (hb hy d15_64) (by decide) (by decide) rfl
theorem rm14 (l : Launch) (Z : State) (a0 : Array Value) (hw : ∀ d ∈ tables_1, d.before a0 Z = true) (a1 : Addr) (k_a1 : ClassId) (x1 x2 : Int32) (h0 : Heap) (O0 : Old Z Z.heap.size h0) (V_a1 : Arv Z h0 a1 k_a1 .byte (2 : Int32) [(.int (StrChars.lo8 x1)), (.int (StrChars.lo8 x2))] (.int 0)) :
    CtrN l Z (⟨"java/lang/StringLatin1", "getChar", "([BI)C"⟩ : MethodName) jdk_43_method_44_code 2 (some .char) [] (⟨0, 0, 0, 0⟩ : Room) #[(.ref a1), (.int 1)] h0 [] (fun v h => v = some (.int ((StrChars.lo8 x2) &&& (255 : Int32)))) := by
  refine CtrN.intro (L0 := #[.val (.ref a1), .val (.int 1)]) (plainFor_of_name pn4) O0 (fun m => by first | rfl | (simp [entryFrame, mkF, argsToLocals, Value.category]; done)) ?_
  intro p e s m below meth c T0 hy hml hret hlk hnm W0
  refine o_aloadN W0 (pc' := 1) (hb hy d16_0) rfl rfl rfl ?_
  refine o_iloadN W0 (pc' := 2) (hb hy d16_1) rfl rfl ?_
  refine o_baload W0 V_a1 (x := (StrChars.lo8 x2)) (i := 1) (by decide) (by decide) (by decide) rfl (pc' := 3) (hb hy d16_2) rfl ?_
  refine o_sipush W0 (v := 255) (pc' := 6) (hb hy d16_3) (by decide) rfl ?_
  refine o_iand W0 (v := ((StrChars.lo8 x2) &&& (255 : Int32))) (pc' := 7) (hb hy d16_6) rfl rfl ?_
  refine o_i2c W0 (v := ((StrChars.lo8 x2) &&& (255 : Int32))) (pc' := 8) (hb hy d16_7) (own_i2c (own_b255 _)) rfl ?_
  exact o_retN W0 hlk (t := .char) hret (by simp) (z' := ((StrChars.lo8 x2) &&& (255 : Int32))) (own_i2c (own_b255 _)) (hb hy d16_8) (by decide) (by decide) rfl
theorem rm15 (l : Launch) (Z : State) (a0 : Array Value) (hw : ∀ d ∈ tables_1, d.before a0 Z = true) (a1 a2 : Addr) (k_a1 : ClassId) (x1 x2 : Int32) (k_a2 : ClassId) (x3 x4 : Int32) (h0 : Heap) (O0 : Old Z Z.heap.size h0) (V_a1 : Arv Z h0 a1 k_a1 .byte (2 : Int32) [(.int (StrChars.lo8 x1)), (.int (StrChars.lo8 x2))] (.int 0)) (V_a2 : Arv Z h0 a2 k_a2 .byte (2 : Int32) [(.int (StrChars.lo8 x3)), (.int (StrChars.lo8 x4))] (.int 0)) (hc4 : (StrChars.lo8 x1) = (StrChars.lo8 x3)) (hc5 : ¬ ((StrChars.lo8 x2) = (StrChars.lo8 x4))) :
    CtrN l Z (⟨"java/lang/StringLatin1", "compareTo", "([B[BII)I"⟩ : MethodName) jdk_43_method_15_code 6 (some .int) [] (⟨1, 0, 0, 15⟩ : Room) #[(.ref a1), (.ref a2), (.int 2), (.int 2)] h0 [] (fun v h => v = some (.int (((StrChars.lo8 x2) &&& (255 : Int32)) - ((StrChars.lo8 x4) &&& (255 : Int32))))) := by
  refine CtrN.intro (L0 := #[.val (.ref a1), .val (.ref a2), .val (.int 2), .val (.int 2), .unset, .unset]) (plainFor_of_name pn4) O0 (fun m => by first | rfl | (simp [entryFrame, mkF, argsToLocals, Value.category]; done)) ?_
  intro p e s m below meth c T0 hy hml hret hlk hnm W0
  refine o_iloadN W0 (pc' := 1) (hb hy d13_0) rfl rfl ?_
  refine o_iloadN W0 (pc' := 2) (hb hy d13_1) rfl rfl ?_
  refine o_static W0 (y := (⟨"java/lang/Math", "min", "(II)I"⟩ : MethodName)) (w68 hw) (w69 hw) (w70 hw) (w71 hw) (by decide) (argsL := [(.int 2), (.int 2)]) (CtrN.back (Wd := 0) W0 (rm4 l Z a0 hw  h0 W0.old ) (w71 hw) (w70 hw) (by decide) (by decide)) (by rw [hml]; rfl) (lenOf pd4 rfl) (S := []) rfl (by exact Nat.le_of_eq rfl) (pc' := 5) (hb hy d13_2) rfl (cells' := 0) (slots' := 0) rfl rfl (by decide) (by decide) (wy := []) (fun _ _ _ q => ⟨q.1, q.2.1⟩) all0 (fun _ _ => trivial) ?_
  intro v1 T1 h1 lo1 W1 K1 q1
  obtain rfl := q1.2.2
  show Gl _ _ _ _ _ _ _ _ [(.int 2)]
  refine o_istore W1 (L' := #[.val (.ref a1), .val (.ref a2), .val (.int 2), .val (.int 2), .val (.int 2), .unset]) (pc' := 7) (hb hy d13_5) rfl rfl ?_
  refine o_aloadN W1 (pc' := 8) (hb hy d13_7) rfl rfl rfl ?_
  refine o_aloadN W1 (pc' := 9) (hb hy d13_8) rfl rfl rfl ?_
  refine o_iload W1 (pc' := 11) (hb hy d13_9) rfl rfl ?_
  have c2 := (V_a1.keep K1 nin0)
  have c3 := (V_a2.keep K1 nin0)
  refine o_static W1 (y := (⟨"jdk/internal/util/ArraysSupport", "mismatch", "([B[BI)I"⟩ : MethodName)) (w72 hw) (w73 hw) (w74 hw) (w75 hw) (by decide) (argsL := [(.ref a1), (.ref a2), (.int 2)]) (CtrN.back (Wd := 0) W1 (rm13 l Z a0 hw a1 a2 k_a1 x1 x2 k_a2 x3 x4 h1 W1.old c2 c3 hc4 hc5) (w75 hw) (w74 hw) (by decide) (by decide)) (by rw [hml]; rfl) (lenOf pd5 rfl) (S := []) rfl (by exact Nat.le_of_eq rfl) (pc' := 14) (hb hy d13_11) rfl (cells' := 0) (slots' := 0) rfl rfl (by decide) (by decide) (wy := []) (fun _ _ _ q => ⟨q.1, q.2.1⟩) all0 (fun _ _ => trivial) ?_
  intro v6 T6 h6 lo6 W6 K6 q6
  obtain rfl := q6.2.2
  show Gl _ _ _ _ _ _ _ _ [(.int 1)]
  refine o_istore W6 (L' := #[.val (.ref a1), .val (.ref a2), .val (.int 2), .val (.int 2), .val (.int 2), .val (.int 1)]) (pc' := 16) (hb hy d13_14) rfl rfl ?_
  refine o_iload W6 (pc' := 18) (hb hy d13_16) rfl rfl ?_
  refine o_ifY W6 (pc' := 27) (hb hy d13_18) (XT.i0_ge_t (by decide)) (by decide) rfl ?_
  refine o_aloadN W6 (pc' := 28) (hb hy d13_27) rfl rfl rfl ?_
  refine o_iload W6 (pc' := 30) (hb hy d13_28) rfl rfl ?_
  have c7 := (c2.keep K6 nin0)
  refine o_static W6 (y := (⟨"java/lang/StringLatin1", "getChar", "([BI)C"⟩ : MethodName)) (w76 hw) (w77 hw) (w63 hw) (w78 hw) (by decide) (argsL := [(.ref a1), (.int 1)]) (CtrN.back (Wd := 0) W6 (rm14 l Z a0 hw a1 k_a1 x1 x2 h6 W6.old c7) (w78 hw) (w63 hw) (by decide) (by decide)) (by rw [hml]; rfl) (lenOf pd12 rfl) (S := []) rfl (by exact Nat.le_of_eq rfl) (pc' := 33) (hb hy d13_30) rfl (cells' := 0) (slots' := 0) rfl rfl (by decide) (by decide) (wy := []) (fun _ _ _ q => ⟨q.1, q.2.1⟩) all0 (fun _ _ => trivial) ?_
  intro v8 T8 h8 lo8 W8 K8 q8
  obtain rfl := q8.2.2
  show Gl _ _ _ _ _ _ _ _ [(.int ((StrChars.lo8 x2) &&& (255 : Int32)))]
  refine o_aloadN W8 (pc' := 34) (hb hy d13_33) rfl rfl rfl ?_
  refine o_iload W8 (pc' := 36) (hb hy d13_34) rfl rfl ?_
  have c9 := ((c3.keep K6 nin0).keep K8 nin0)
  refine o_static W8 (y := (⟨"java/lang/StringLatin1", "getChar", "([BI)C"⟩ : MethodName)) (w76 hw) (w77 hw) (w63 hw) (w78 hw) (by decide) (argsL := [(.ref a2), (.int 1)]) (CtrN.back (Wd := 1) W8 (rm14 l Z a0 hw a2 k_a2 x3 x4 h8 W8.old c9) (w78 hw) (w63 hw) (by decide) (by decide)) (by rw [hml]; rfl) (lenOf pd12 rfl) (S := [(.int ((StrChars.lo8 x2) &&& (255 : Int32)))]) rfl (by exact Nat.le_of_eq rfl) (pc' := 39) (hb hy d13_36) rfl (cells' := 0) (slots' := 0) rfl rfl (by decide) (by decide) (wy := []) (fun _ _ _ q => ⟨q.1, q.2.1⟩) all0 (fun _ _ => trivial) ?_
  intro v10 T10 h10 lo10 W10 K10 q10
  obtain rfl := q10.2.2
  show Gl _ _ _ _ _ _ _ _ [(.int ((StrChars.lo8 x4) &&& (255 : Int32))), (.int ((StrChars.lo8 x2) &&& (255 : Int32)))]
  refine o_isub W10 (v := (((StrChars.lo8 x2) &&& (255 : Int32)) - ((StrChars.lo8 x4) &&& (255 : Int32)))) (pc' := 40) (hb hy d13_39) rfl rfl ?_
  exact o_retI W10 hlk hret (hb hy d13_40) (by decide) (by decide) rfl
theorem rm16 (l : Launch) (Z : State) (a0 : Array Value) (hw : ∀ d ∈ tables_1, d.before a0 Z = true) (a1 a2 : Addr) (k_a1 : ClassId) (x1 x2 : Int32) (k_a2 : ClassId) (x3 x4 : Int32) (h0 : Heap) (O0 : Old Z Z.heap.size h0) (V_a1 : Arv Z h0 a1 k_a1 .byte (2 : Int32) [(.int (StrChars.lo8 x1)), (.int (StrChars.lo8 x2))] (.int 0)) (V_a2 : Arv Z h0 a2 k_a2 .byte (2 : Int32) [(.int (StrChars.lo8 x3)), (.int (StrChars.lo8 x4))] (.int 0)) (hc1 : (StrChars.lo8 x1) = (StrChars.lo8 x3)) (hc2 : ¬ ((StrChars.lo8 x2) = (StrChars.lo8 x4))) :
    CtrN l Z (⟨"java/lang/StringLatin1", "compareTo", "([B[B)I"⟩ : MethodName) jdk_43_method_14_code 4 (some .int) [] (⟨2, 0, 0, 32⟩ : Room) #[(.ref a1), (.ref a2)] h0 [] (fun v h => v = some (.int (((StrChars.lo8 x2) &&& (255 : Int32)) - ((StrChars.lo8 x4) &&& (255 : Int32))))) := by
  refine CtrN.intro (L0 := #[.val (.ref a1), .val (.ref a2), .unset, .unset]) (plainFor_of_name pn4) O0 (fun m => by first | rfl | (simp [entryFrame, mkF, argsToLocals, Value.category]; done)) ?_
  intro p e s m below meth c T0 hy hml hret hlk hnm W0
  refine o_aloadN W0 (pc' := 1) (hb hy d12_0) rfl rfl rfl ?_
  refine o_len W0 V_a1 (pc' := 2) (hb hy d12_1) rfl ?_
  refine o_istoreN W0 (L' := #[.val (.ref a1), .val (.ref a2), .val (.int 2), .unset]) (pc' := 3) (hb hy d12_2) rfl rfl ?_
  refine o_aloadN W0 (pc' := 4) (hb hy d12_3) rfl rfl rfl ?_
  refine o_len W0 V_a2 (pc' := 5) (hb hy d12_4) rfl ?_
  refine o_istoreN W0 (L' := #[.val (.ref a1), .val (.ref a2), .val (.int 2), .val (.int 2)]) (pc' := 6) (hb hy d12_5) rfl rfl ?_
  refine o_aloadN W0 (pc' := 7) (hb hy d12_6) rfl rfl rfl ?_
  refine o_aloadN W0 (pc' := 8) (hb hy d12_7) rfl rfl rfl ?_
  refine o_iloadN W0 (pc' := 9) (hb hy d12_8) rfl rfl ?_
  refine o_iloadN W0 (pc' := 10) (hb hy d12_9) rfl rfl ?_
  refine o_static W0 (y := (⟨"java/lang/StringLatin1", "compareTo", "([B[BII)I"⟩ : MethodName)) (w65 hw) (w66 hw) (w63 hw) (w67 hw) (by decide) (argsL := [(.ref a1), (.ref a2), (.int 2), (.int 2)]) (CtrN.back (Wd := 0) W0 (rm15 l Z a0 hw a1 a2 k_a1 x1 x2 k_a2 x3 x4 h0 W0.old V_a1 V_a2 hc1 hc2) (w67 hw) (w63 hw) (by decide) (by decide)) (by rw [hml]; rfl) (lenOf pd6 rfl) (S := []) rfl (by exact Nat.le_of_eq rfl) (pc' := 13) (hb hy d12_10) rfl (cells' := 0) (slots' := 0) rfl rfl (by decide) (by decide) (wy := []) (fun _ _ _ q => ⟨q.1, q.2.1⟩) all0 (fun _ _ => trivial) ?_
  intro v3 T3 h3 lo3 W3 K3 q3
  obtain rfl := q3.2.2
  show Gl _ _ _ _ _ _ _ _ [(.int (((StrChars.lo8 x2) &&& (255 : Int32)) - ((StrChars.lo8 x4) &&& (255 : Int32))))]
  exact o_retI W3 hlk hret (hb hy d12_13) (by decide) (by decide) rfl
theorem rm17 (l : Launch) (Z : State) (a0 : Array Value) (hw : ∀ d ∈ tables_1, d.before a0 Z = true) (gCS : Int32) (a1 a2 a3 a4 : Addr) (k_a3 : ClassId) (x1 x2 : Int32) (k_a4 : ClassId) (x3 x4 : Int32) (h0 : Heap) (O0 : Old Z Z.heap.size h0) (F_a1_value : Fld Z h0 a1 "java/lang/String" "value" "[B" (.ref a3)) (F_a2_value : Fld Z h0 a2 "java/lang/String" "value" "[B" (.ref a4)) (E_a1 : Exa Z h0 a1 "java/lang/String") (SgCS : Sta Z Z.heap "java/lang/String" "COMPACT_STRINGS" "Z" (.int gCS)) (NgCS : ¬ (gCS = (0 : Int32))) (F_a1_coder : Fld Z h0 a1 "java/lang/String" "coder" "B" (.int 0)) (E_a2 : Exa Z h0 a2 "java/lang/String") (F_a2_coder : Fld Z h0 a2 "java/lang/String" "coder" "B" (.int 0)) (V_a3 : Arv Z h0 a3 k_a3 .byte (2 : Int32) [(.int (StrChars.lo8 x1)), (.int (StrChars.lo8 x2))] (.int 0)) (V_a4 : Arv Z h0 a4 k_a4 .byte (2 : Int32) [(.int (StrChars.lo8 x3)), (.int (StrChars.lo8 x4))] (.int 0)) (hc9 : (StrChars.lo8 x1) = (StrChars.lo8 x3)) (hc10 : ¬ ((StrChars.lo8 x2) = (StrChars.lo8 x4))) :
    CtrN l Z (⟨"java/lang/String", "compareTo", "(Ljava/lang/String;)I"⟩ : MethodName) jdk_42_method_71_code 5 (some .int) [] (⟨3, 0, 0, 47⟩ : Room) #[(.ref a1), (.ref a2)] h0 [] (fun v h => v = some (.int (((StrChars.lo8 x2) &&& (255 : Int32)) - ((StrChars.lo8 x4) &&& (255 : Int32))))) := by
  refine CtrN.intro (L0 := #[.val (.ref a1), .val (.ref a2), .unset, .unset, .unset]) (plainFor_of_name pn2) O0 (fun m => by first | rfl | (simp [entryFrame, mkF, argsToLocals, Value.category]; done)) ?_
  intro p e s m below meth c T0 hy hml hret hlk hnm W0
  refine o_aloadN W0 (pc' := 1) (hb hy d10_0) rfl rfl rfl ?_
  refine o_getF W0 (w28 hw) Via.refl F_a1_value (pc' := 4) (hb hy d10_1) rfl ?_
  intro T1 W1
  refine o_astoreN W1 (L' := #[.val (.ref a1), .val (.ref a2), .val (.ref a3), .unset, .unset]) (pc' := 5) (hb hy d10_4) rfl rfl rfl ?_
  refine o_aloadN W1 (pc' := 6) (hb hy d10_5) rfl rfl rfl ?_
  refine o_getF W1 (w28 hw) Via.refl F_a2_value (pc' := 9) (hb hy d10_6) rfl ?_
  intro T2 W2
  refine o_astoreN W2 (L' := #[.val (.ref a1), .val (.ref a2), .val (.ref a3), .val (.ref a4), .unset]) (pc' := 10) (hb hy d10_9) rfl rfl rfl ?_
  refine o_aloadN W2 (pc' := 11) (hb hy d10_10) rfl rfl rfl ?_
  refine o_virtual W2 (y := (⟨"java/lang/String", "coder", "()B"⟩ : MethodName)) (z := (⟨"java/lang/String", "coder", "()B"⟩ : MethodName)) (w56 hw) (w57 hw) (o_nf W2 rfl (w59 hw)) (w59 hw) (w58 hw) (by decide) E_a1 (argsL := []) (CtrN.back (Wd := 0) W2 (rm3 l Z a0 hw gCS a1 h0 W2.old SgCS NgCS F_a1_coder) (w60 hw) (w3 hw) (by decide) (by decide)) (by rw [hml]; rfl) (lenOf pd3 rfl) (S := []) rfl (by exact Nat.le_of_eq rfl) (pc' := 14) (hb hy d10_11) rfl (cells' := 0) (slots' := 0) rfl rfl (by decide) (by decide) (wy := []) (fun _ _ _ q => ⟨q.1, q.2.1⟩) all0 (fun _ _ => trivial) ?_
  intro v3 T3 h3 lo3 W3 K3 q3
  obtain rfl := q3.2.2
  show Gl _ _ _ _ _ _ _ _ [(.int 0)]
  refine o_istore W3 (L' := #[.val (.ref a1), .val (.ref a2), .val (.ref a3), .val (.ref a4), .val (.int 0)]) (pc' := 16) (hb hy d10_14) rfl rfl ?_
  refine o_iload W3 (pc' := 18) (hb hy d10_16) rfl rfl ?_
  refine o_aloadN W3 (pc' := 19) (hb hy d10_18) rfl rfl rfl ?_
  have c4 := (E_a2.keep K3)
  have c5 := (F_a2_coder.keep K3 nin0)
  refine o_virtual W3 (y := (⟨"java/lang/String", "coder", "()B"⟩ : MethodName)) (z := (⟨"java/lang/String", "coder", "()B"⟩ : MethodName)) (w56 hw) (w57 hw) (o_nf W3 rfl (w59 hw)) (w59 hw) (w58 hw) (by decide) c4 (argsL := []) (CtrN.back (Wd := 1) W3 (rm3 l Z a0 hw gCS a2 h3 W3.old SgCS NgCS c5) (w60 hw) (w3 hw) (by decide) (by decide)) (by rw [hml]; rfl) (lenOf pd3 rfl) (S := [(.int 0)]) rfl (by exact Nat.le_of_eq rfl) (pc' := 22) (hb hy d10_19) rfl (cells' := 0) (slots' := 0) rfl rfl (by decide) (by decide) (wy := []) (fun _ _ _ q => ⟨q.1, q.2.1⟩) all0 (fun _ _ => trivial) ?_
  intro v6 T6 h6 lo6 W6 K6 q6
  obtain rfl := q6.2.2
  show Gl _ _ _ _ _ _ _ _ [(.int 0), (.int 0)]
  refine o_icmpN W6 (pc' := 25) (hb hy d10_22) (XT.ii_ne_f (by decide)) rfl ?_
  refine o_iload W6 (pc' := 27) (hb hy d10_25) rfl rfl ?_
  refine o_ifN W6 (pc' := 30) (hb hy d10_27) (XT.i0_ne_f (by decide)) rfl ?_
  refine o_aloadN W6 (pc' := 31) (hb hy d10_30) rfl rfl rfl ?_
  refine o_aloadN W6 (pc' := 32) (hb hy d10_31) rfl rfl rfl ?_
  have c7 := ((V_a3.keep K3 nin0).keep K6 nin0)
  have c8 := ((V_a4.keep K3 nin0).keep K6 nin0)
  refine o_static W6 (y := (⟨"java/lang/StringLatin1", "compareTo", "([B[B)I"⟩ : MethodName)) (w61 hw) (w62 hw) (w63 hw) (w64 hw) (by decide) (argsL := [(.ref a3), (.ref a4)]) (CtrN.back (Wd := 0) W6 (rm16 l Z a0 hw a3 a4 k_a3 x1 x2 k_a4 x3 x4 h6 W6.old c7 c8 hc9 hc10) (w64 hw) (w63 hw) (by decide) (by decide)) (by rw [hml]; rfl) (lenOf pd7 rfl) (S := []) rfl (by exact Nat.le_of_eq rfl) (pc' := 35) (hb hy d10_32) rfl (cells' := 0) (slots' := 0) rfl rfl (by decide) (by decide) (wy := []) (fun _ _ _ q => ⟨q.1, q.2.1⟩) all0 (fun _ _ => trivial) ?_
  intro v11 T11 h11 lo11 W11 K11 q11
  obtain rfl := q11.2.2
  show Gl _ _ _ _ _ _ _ _ [(.int (((StrChars.lo8 x2) &&& (255 : Int32)) - ((StrChars.lo8 x4) &&& (255 : Int32))))]
  refine o_goto W11 (pc' := 43) (hb hy d10_35) (by decide) rfl ?_
  exact o_retI W11 hlk hret (hb hy d10_43) (by decide) (by decide) rfl
theorem rm18 (l : Launch) (Z : State) (a0 : Array Value) (hw : ∀ d ∈ tables_1, d.before a0 Z = true) (gCS : Int32) (gN a1 a2 a3 a4 a5 : Addr) (k_a4 : ClassId) (x1 x2 : Int32) (k_a5 : ClassId) (x3 x4 : Int32) (h0 : Heap) (O0 : Old Z Z.heap.size h0) (SgN_NON_COMMUTING : Sta Z Z.heap "com/example/plebiscite/plebiscite/core/Constraint$Kind" "NON_COMMUTING" "Lcom/example/plebiscite/plebiscite/core/Constraint$Kind;" (.ref gN)) (E_a2 : Exa Z h0 a2 "java/lang/String") (F_a2_value : Fld Z h0 a2 "java/lang/String" "value" "[B" (.ref a4)) (F_a3_value : Fld Z h0 a3 "java/lang/String" "value" "[B" (.ref a5)) (SgCS : Sta Z Z.heap "java/lang/String" "COMPACT_STRINGS" "Z" (.int gCS)) (NgCS : ¬ (gCS = (0 : Int32))) (F_a2_coder : Fld Z h0 a2 "java/lang/String" "coder" "B" (.int 0)) (E_a3 : Exa Z h0 a3 "java/lang/String") (F_a3_coder : Fld Z h0 a3 "java/lang/String" "coder" "B" (.int 0)) (V_a4 : Arv Z h0 a4 k_a4 .byte (2 : Int32) [(.int (StrChars.lo8 x1)), (.int (StrChars.lo8 x2))] (.int 0)) (V_a5 : Arv Z h0 a5 k_a5 .byte (2 : Int32) [(.int (StrChars.lo8 x3)), (.int (StrChars.lo8 x4))] (.int 0)) (hc11 : (StrChars.lo8 x1) = (StrChars.lo8 x3)) (hc12 : ¬ ((StrChars.lo8 x2) = (StrChars.lo8 x4))) (hc14 : ¬ ((0 : Int32) < (((StrChars.lo8 x2) &&& (255 : Int32)) - ((StrChars.lo8 x4) &&& (255 : Int32))))) (E_a1 : Exa Z h0 a1 "com/example/plebiscite/plebiscite/core/Constraint") (F_a1_kind : Fld Z h0 a1 "com/example/plebiscite/plebiscite/core/Constraint" "kind" "Lcom/example/plebiscite/plebiscite/core/Constraint$Kind;" .null) (g_a1 : Z.heap.size ≤ a1) (F_a1_first : Fld Z h0 a1 "com/example/plebiscite/plebiscite/core/Constraint" "first" "Ljava/lang/String;" .null) (F_a1_second : Fld Z h0 a1 "com/example/plebiscite/plebiscite/core/Constraint" "second" "Ljava/lang/String;" .null) :
    CtrN l Z (⟨"com/example/plebiscite/plebiscite/core/Constraint", "<init>", "(Lcom/example/plebiscite/plebiscite/core/Constraint$Kind;Ljava/lang/String;Ljava/lang/String;)V"⟩ : MethodName) prog_19_method_1_code 5 none [] (⟨4, 0, 0, 63⟩ : Room) #[(.ref a1), (.ref gN), (.ref a2), (.ref a3)] h0 [a1] (fun v h => Fld Z h a1 "com/example/plebiscite/plebiscite/core/Constraint" "kind" "Lcom/example/plebiscite/plebiscite/core/Constraint$Kind;" (.ref gN) ∧ Fld Z h a1 "com/example/plebiscite/plebiscite/core/Constraint" "first" "Ljava/lang/String;" (.ref a2) ∧ Fld Z h a1 "com/example/plebiscite/plebiscite/core/Constraint" "second" "Ljava/lang/String;" (.ref a3) ∧ v = none) := by
  refine CtrN.intro (L0 := #[.val (.ref a1), .val (.ref gN), .val (.ref a2), .val (.ref a3), .unset]) (plainFor_of_name pn5) O0 (fun m => by first | rfl | (simp [entryFrame, mkF, argsToLocals, Value.category]; done)) ?_
  intro p e s m below meth c T0 hy hml hret hlk hnm W0
  refine o_aloadN W0 (pc' := 1) (hb hy d8_0) rfl rfl rfl ?_
  refine o_special W0 (y := (⟨"java/lang/Record", "<init>", "()V"⟩ : MethodName)) rfl (w44 hw) (w45 hw) (w48 hw) (by decide) (a := a1) (argsL := []) (CtrN.back (Wd := 0) W0 (rm2 l Z a0 hw a1 h0 W0.old ) (w48 hw) (w47 hw) (by decide) (by decide)) (by rw [hml]; rfl) (lenOf pd2 rfl) (S := []) rfl (by exact Nat.le_of_eq rfl) (pc' := 4) (hb hy d8_1) rfl (cells' := 0) (slots' := 0) rfl rfl (by decide) (by decide) (wy := []) (fun _ _ _ q => ⟨q.1, q.2.1⟩) all0 (fun _ _ => trivial) ?_
  intro v1 T1 h1 lo1 W1 K1 q1
  obtain rfl := q1.2.2
  show Gl _ _ _ _ _ _ _ _ []
  refine o_aloadN W1 (pc' := 5) (hb hy d8_4) rfl rfl rfl ?_
  refine o_getS W1 (w50 hw) Via.refl (SgN_NON_COMMUTING.ext W1.ox) (pc' := 8) (hb hy d8_5) rfl ?_
  intro T2 W2
  refine o_acmpN W2 (pc' := 11) (hb hy d8_8) rfl rfl (XT.aa_ne_f rfl) rfl ?_
  refine o_aloadN W2 (pc' := 12) (hb hy d8_11) rfl rfl rfl ?_
  refine o_aloadN W2 (pc' := 13) (hb hy d8_12) rfl rfl rfl ?_
  have c3 := (E_a2.keep K1)
  have c4 := (F_a2_value.keep K1 nin0)
  have c5 := (F_a3_value.keep K1 nin0)
  have c6 := (F_a2_coder.keep K1 nin0)
  have c7 := (E_a3.keep K1)
  have c8 := (F_a3_coder.keep K1 nin0)
  have c9 := (V_a4.keep K1 nin0)
  have c10 := (V_a5.keep K1 nin0)
  refine o_virtual W2 (y := (⟨"java/lang/String", "compareTo", "(Ljava/lang/String;)I"⟩ : MethodName)) (z := (⟨"java/lang/String", "compareTo", "(Ljava/lang/String;)I"⟩ : MethodName)) (w51 hw) (w52 hw) (o_nf W2 rfl (w54 hw)) (w54 hw) (w53 hw) (by decide) c3 (argsL := [(.ref a3)]) (CtrN.back (Wd := 0) W2 (rm17 l Z a0 hw gCS a2 a3 a4 a5 k_a4 x1 x2 k_a5 x3 x4 h1 W2.old c4 c5 c3 SgCS NgCS c6 c7 c8 c9 c10 hc11 hc12) (w55 hw) (w3 hw) (by decide) (by decide)) (by rw [hml]; rfl) (lenOf pd8 rfl) (S := []) rfl (by exact Nat.le_of_eq rfl) (pc' := 16) (hb hy d8_13) rfl (cells' := 0) (slots' := 0) rfl rfl (by decide) (by decide) (wy := []) (fun _ _ _ q => ⟨q.1, q.2.1⟩) all0 (fun _ _ => trivial) ?_
  intro v13 T13 h13 lo13 W13 K13 q13
  obtain rfl := q13.2.2
  show Gl _ _ _ _ _ _ _ _ [(.int (((StrChars.lo8 x2) &&& (255 : Int32)) - ((StrChars.lo8 x4) &&& (255 : Int32))))]
  refine o_ifY W13 (pc' := 27) (hb hy d8_16) (XT.i0_le_t hc14) (by decide) rfl ?_
  refine o_aloadN W13 (pc' := 28) (hb hy d8_27) rfl rfl rfl ?_
  refine o_aloadN W13 (pc' := 29) (hb hy d8_28) rfl rfl rfl ?_
  have c15 := ((E_a1.keep K1).keep K13)
  have c16 := ((F_a1_kind.keep K1 nin0).keep K13 nin0)
  refine o_putF W13 (w79 hw) Via.refl c16 c15 (Or.inr ⟨(w80 hw), rfl, hnm⟩) (w31 hw) (ty := (.object "com/example/plebiscite/plebiscite/core/Constraint$Kind")) (v' := (.ref gN)) (by decide) rfl rfl g_a1 (Or.inl (List.mem_of_getElem? (i := 0) rfl)) (fun _ _ => trivial) (pc' := 32) (hb hy d8_29) rfl ?_
  intro T17 h17 lo17 W17 R17
  have F17 := c16.same R17
  refine o_aloadN W17 (pc' := 33) (hb hy d8_32) rfl rfl rfl ?_
  refine o_aloadN W17 (pc' := 34) (hb hy d8_33) rfl rfl rfl ?_
  have c18 := (c15.wr R17)
  have c19 := (((F_a1_first.keep K1 nin0).keep K13 nin0).other R17 (Or.inr (slot_ne (Or.inr (w82 hw)) (Or.inr (w80 hw)) (by decide) (t := (.object "java/lang/String")) (t' := (.object "com/example/plebiscite/plebiscite/core/Constraint$Kind")) (by decide) (by decide))))
  refine o_putF W17 (w81 hw) Via.refl c19 c18 (Or.inr ⟨(w82 hw), rfl, hnm⟩) (w31 hw) (ty := (.object "java/lang/String")) (v' := (.ref a2)) (by decide) rfl rfl g_a1 (Or.inl (List.mem_of_getElem? (i := 0) rfl)) (fun _ _ => trivial) (pc' := 37) (hb hy d8_34) rfl ?_
  intro T20 h20 lo20 W20 R20
  have F20 := c19.same R20
  refine o_aloadN W20 (pc' := 38) (hb hy d8_37) rfl rfl rfl ?_
  refine o_aloadN W20 (pc' := 39) (hb hy d8_38) rfl rfl rfl ?_
  have c21 := (c18.wr R20)
  have c22 := ((((F_a1_second.keep K1 nin0).keep K13 nin0).other R17 (Or.inr (slot_ne (Or.inr (w84 hw)) (Or.inr (w80 hw)) (by decide) (t := (.object "java/lang/String")) (t' := (.object "com/example/plebiscite/plebiscite/core/Constraint$Kind")) (by decide) (by decide)))).other R20 (Or.inr (slot_ne (Or.inr (w84 hw)) (Or.inr (w82 hw)) (by decide) (t := (.object "java/lang/String")) (t' := (.object "java/lang/String")) (by decide) (by decide))))
  refine o_putF W20 (w83 hw) Via.refl c22 c21 (Or.inr ⟨(w84 hw), rfl, hnm⟩) (w31 hw) (ty := (.object "java/lang/String")) (v' := (.ref a3)) (by decide) rfl rfl g_a1 (Or.inl (List.mem_of_getElem? (i := 0) rfl)) (fun _ _ => trivial) (pc' := 42) (hb hy d8_39) rfl ?_
  intro T23 h23 lo23 W23 R23
  have F23 := c22.same R23
  have c24 := ((F17.other R20 (Or.inr (slot_ne (Or.inr (w80 hw)) (Or.inr (w82 hw)) (by decide) (t := (.object "com/example/plebiscite/plebiscite/core/Constraint$Kind")) (t' := (.object "java/lang/String")) (by decide) (by decide)))).other R23 (Or.inr (slot_ne (Or.inr (w80 hw)) (Or.inr (w84 hw)) (by decide) (t := (.object "com/example/plebiscite/plebiscite/core/Constraint$Kind")) (t' := (.object "java/lang/String")) (by decide) (by decide))))
  have c25 := (F20.other R23 (Or.inr (slot_ne (Or.inr (w82 hw)) (Or.inr (w84 hw)) (by decide) (t := (.object "java/lang/String")) (t' := (.object "java/lang/String")) (by decide) (by decide))))
  have c26 := (c21.wr R23)
  exact o_ret0 W23 hlk hret (hb hy d8_42) (by decide) (by decide) ⟨c24, c25, F23, rfl⟩
theorem rm19 (l : Launch) (Z : State) (a0 : Array Value) (hw : ∀ d ∈ tables_1, d.before a0 Z = true) (gCS : Int32) (gN a1 a2 a3 a4 a5 : Addr) (k_a4 : ClassId) (x1 x2 : Int32) (k_a5 : ClassId) (x3 x4 : Int32) (h0 : Heap) (O0 : Old Z Z.heap.size h0) (SgN_NON_COMMUTING : Sta Z Z.heap "com/example/plebiscite/plebiscite/core/Constraint$Kind" "NON_COMMUTING" "Lcom/example/plebiscite/plebiscite/core/Constraint$Kind;" (.ref gN)) (E_a2 : Exa Z h0 a2 "java/lang/String") (F_a2_value : Fld Z h0 a2 "java/lang/String" "value" "[B" (.ref a4)) (F_a3_value : Fld Z h0 a3 "java/lang/String" "value" "[B" (.ref a5)) (SgCS : Sta Z Z.heap "java/lang/String" "COMPACT_STRINGS" "Z" (.int gCS)) (NgCS : ¬ (gCS = (0 : Int32))) (F_a2_coder : Fld Z h0 a2 "java/lang/String" "coder" "B" (.int 0)) (E_a3 : Exa Z h0 a3 "java/lang/String") (F_a3_coder : Fld Z h0 a3 "java/lang/String" "coder" "B" (.int 0)) (V_a4 : Arv Z h0 a4 k_a4 .byte (2 : Int32) [(.int (StrChars.lo8 x1)), (.int (StrChars.lo8 x2))] (.int 0)) (V_a5 : Arv Z h0 a5 k_a5 .byte (2 : Int32) [(.int (StrChars.lo8 x3)), (.int (StrChars.lo8 x4))] (.int 0)) (hc11 : (StrChars.lo8 x1) = (StrChars.lo8 x3)) (hc12 : ¬ ((StrChars.lo8 x2) = (StrChars.lo8 x4))) (hc14 : (0 : Int32) < (((StrChars.lo8 x2) &&& (255 : Int32)) - ((StrChars.lo8 x4) &&& (255 : Int32)))) (E_a1 : Exa Z h0 a1 "com/example/plebiscite/plebiscite/core/Constraint") (F_a1_kind : Fld Z h0 a1 "com/example/plebiscite/plebiscite/core/Constraint" "kind" "Lcom/example/plebiscite/plebiscite/core/Constraint$Kind;" .null) (g_a1 : Z.heap.size ≤ a1) (F_a1_first : Fld Z h0 a1 "com/example/plebiscite/plebiscite/core/Constraint" "first" "Ljava/lang/String;" .null) (F_a1_second : Fld Z h0 a1 "com/example/plebiscite/plebiscite/core/Constraint" "second" "Ljava/lang/String;" .null) :
    CtrN l Z (⟨"com/example/plebiscite/plebiscite/core/Constraint", "<init>", "(Lcom/example/plebiscite/plebiscite/core/Constraint$Kind;Ljava/lang/String;Ljava/lang/String;)V"⟩ : MethodName) prog_19_method_1_code 5 none [] (⟨4, 0, 0, 63⟩ : Room) #[(.ref a1), (.ref gN), (.ref a2), (.ref a3)] h0 [a1] (fun v h => Fld Z h a1 "com/example/plebiscite/plebiscite/core/Constraint" "kind" "Lcom/example/plebiscite/plebiscite/core/Constraint$Kind;" (.ref gN) ∧ Fld Z h a1 "com/example/plebiscite/plebiscite/core/Constraint" "first" "Ljava/lang/String;" (.ref a3) ∧ Fld Z h a1 "com/example/plebiscite/plebiscite/core/Constraint" "second" "Ljava/lang/String;" (.ref a2) ∧ v = none) := by
  refine CtrN.intro (L0 := #[.val (.ref a1), .val (.ref gN), .val (.ref a2), .val (.ref a3), .unset]) (plainFor_of_name pn5) O0 (fun m => by first | rfl | (simp [entryFrame, mkF, argsToLocals, Value.category]; done)) ?_
  intro p e s m below meth c T0 hy hml hret hlk hnm W0
  refine o_aloadN W0 (pc' := 1) (hb hy d8_0) rfl rfl rfl ?_
  refine o_special W0 (y := (⟨"java/lang/Record", "<init>", "()V"⟩ : MethodName)) rfl (w44 hw) (w45 hw) (w48 hw) (by decide) (a := a1) (argsL := []) (CtrN.back (Wd := 0) W0 (rm2 l Z a0 hw a1 h0 W0.old ) (w48 hw) (w47 hw) (by decide) (by decide)) (by rw [hml]; rfl) (lenOf pd2 rfl) (S := []) rfl (by exact Nat.le_of_eq rfl) (pc' := 4) (hb hy d8_1) rfl (cells' := 0) (slots' := 0) rfl rfl (by decide) (by decide) (wy := []) (fun _ _ _ q => ⟨q.1, q.2.1⟩) all0 (fun _ _ => trivial) ?_
  intro v1 T1 h1 lo1 W1 K1 q1
  obtain rfl := q1.2.2
  show Gl _ _ _ _ _ _ _ _ []
  refine o_aloadN W1 (pc' := 5) (hb hy d8_4) rfl rfl rfl ?_
  refine o_getS W1 (w50 hw) Via.refl (SgN_NON_COMMUTING.ext W1.ox) (pc' := 8) (hb hy d8_5) rfl ?_
  intro T2 W2
  refine o_acmpN W2 (pc' := 11) (hb hy d8_8) rfl rfl (XT.aa_ne_f rfl) rfl ?_
  refine o_aloadN W2 (pc' := 12) (hb hy d8_11) rfl rfl rfl ?_
  refine o_aloadN W2 (pc' := 13) (hb hy d8_12) rfl rfl rfl ?_
  have c3 := (E_a2.keep K1)
  have c4 := (F_a2_value.keep K1 nin0)
  have c5 := (F_a3_value.keep K1 nin0)
  have c6 := (F_a2_coder.keep K1 nin0)
  have c7 := (E_a3.keep K1)
  have c8 := (F_a3_coder.keep K1 nin0)
  have c9 := (V_a4.keep K1 nin0)
  have c10 := (V_a5.keep K1 nin0)
  refine o_virtual W2 (y := (⟨"java/lang/String", "compareTo", "(Ljava/lang/String;)I"⟩ : MethodName)) (z := (⟨"java/lang/String", "compareTo", "(Ljava/lang/String;)I"⟩ : MethodName)) (w51 hw) (w52 hw) (o_nf W2 rfl (w54 hw)) (w54 hw) (w53 hw) (by decide) c3 (argsL := [(.ref a3)]) (CtrN.back (Wd := 0) W2 (rm17 l Z a0 hw gCS a2 a3 a4 a5 k_a4 x1 x2 k_a5 x3 x4 h1 W2.old c4 c5 c3 SgCS NgCS c6 c7 c8 c9 c10 hc11 hc12) (w55 hw) (w3 hw) (by decide) (by decide)) (by rw [hml]; rfl) (lenOf pd8 rfl) (S := []) rfl (by exact Nat.le_of_eq rfl) (pc' := 16) (hb hy d8_13) rfl (cells' := 0) (slots' := 0) rfl rfl (by decide) (by decide) (wy := []) (fun _ _ _ q => ⟨q.1, q.2.1⟩) all0 (fun _ _ => trivial) ?_
  intro v13 T13 h13 lo13 W13 K13 q13
  obtain rfl := q13.2.2
  show Gl _ _ _ _ _ _ _ _ [(.int (((StrChars.lo8 x2) &&& (255 : Int32)) - ((StrChars.lo8 x4) &&& (255 : Int32))))]
  refine o_ifN W13 (pc' := 19) (hb hy d8_16) (XT.i0_le_f hc14) rfl ?_
  refine o_aloadN W13 (pc' := 20) (hb hy d8_19) rfl rfl rfl ?_
  refine o_astore W13 (L' := #[.val (.ref a1), .val (.ref gN), .val (.ref a2), .val (.ref a3), .val (.ref a2)]) (pc' := 22) (hb hy d8_20) rfl rfl rfl ?_
  refine o_aloadN W13 (pc' := 23) (hb hy d8_22) rfl rfl rfl ?_
  refine o_astoreN W13 (L' := #[.val (.ref a1), .val (.ref gN), .val (.ref a3), .val (.ref a3), .val (.ref a2)]) (pc' := 24) (hb hy d8_23) rfl rfl rfl ?_
  refine o_aload W13 (pc' := 26) (hb hy d8_24) rfl rfl rfl ?_
  refine o_astoreN W13 (L' := #[.val (.ref a1), .val (.ref gN), .val (.ref a3), .val (.ref a2), .val (.ref a2)]) (pc' := 27) (hb hy d8_26) rfl rfl rfl ?_
  refine o_aloadN W13 (pc' := 28) (hb hy d8_27) rfl rfl rfl ?_
  refine o_aloadN W13 (pc' := 29) (hb hy d8_28) rfl rfl rfl ?_
  have c15 := ((E_a1.keep K1).keep K13)
  have c16 := ((F_a1_kind.keep K1 nin0).keep K13 nin0)
  refine o_putF W13 (w79 hw) Via.refl c16 c15 (Or.inr ⟨(w80 hw), rfl, hnm⟩) (w31 hw) (ty := (.object "com/example/plebiscite/plebiscite/core/Constraint$Kind")) (v' := (.ref gN)) (by decide) rfl rfl g_a1 (Or.inl (List.mem_of_getElem? (i := 0) rfl)) (fun _ _ => trivial) (pc' := 32) (hb hy d8_29) rfl ?_
  intro T17 h17 lo17 W17 R17
  have F17 := c16.same R17
  refine o_aloadN W17 (pc' := 33) (hb hy d8_32) rfl rfl rfl ?_
  refine o_aloadN W17 (pc' := 34) (hb hy d8_33) rfl rfl rfl ?_
  have c18 := (c15.wr R17)
  have c19 := (((F_a1_first.keep K1 nin0).keep K13 nin0).other R17 (Or.inr (slot_ne (Or.inr (w82 hw)) (Or.inr (w80 hw)) (by decide) (t := (.object "java/lang/String")) (t' := (.object "com/example/plebiscite/plebiscite/core/Constraint$Kind")) (by decide) (by decide))))
  refine o_putF W17 (w81 hw) Via.refl c19 c18 (Or.inr ⟨(w82 hw), rfl, hnm⟩) (w31 hw) (ty := (.object "java/lang/String")) (v' := (.ref a3)) (by decide) rfl rfl g_a1 (Or.inl (List.mem_of_getElem? (i := 0) rfl)) (fun _ _ => trivial) (pc' := 37) (hb hy d8_34) rfl ?_
  intro T20 h20 lo20 W20 R20
  have F20 := c19.same R20
  refine o_aloadN W20 (pc' := 38) (hb hy d8_37) rfl rfl rfl ?_
  refine o_aloadN W20 (pc' := 39) (hb hy d8_38) rfl rfl rfl ?_
  have c21 := (c18.wr R20)
  have c22 := ((((F_a1_second.keep K1 nin0).keep K13 nin0).other R17 (Or.inr (slot_ne (Or.inr (w84 hw)) (Or.inr (w80 hw)) (by decide) (t := (.object "java/lang/String")) (t' := (.object "com/example/plebiscite/plebiscite/core/Constraint$Kind")) (by decide) (by decide)))).other R20 (Or.inr (slot_ne (Or.inr (w84 hw)) (Or.inr (w82 hw)) (by decide) (t := (.object "java/lang/String")) (t' := (.object "java/lang/String")) (by decide) (by decide))))
  refine o_putF W20 (w83 hw) Via.refl c22 c21 (Or.inr ⟨(w84 hw), rfl, hnm⟩) (w31 hw) (ty := (.object "java/lang/String")) (v' := (.ref a2)) (by decide) rfl rfl g_a1 (Or.inl (List.mem_of_getElem? (i := 0) rfl)) (fun _ _ => trivial) (pc' := 42) (hb hy d8_39) rfl ?_
  intro T23 h23 lo23 W23 R23
  have F23 := c22.same R23
  have c24 := ((F17.other R20 (Or.inr (slot_ne (Or.inr (w80 hw)) (Or.inr (w82 hw)) (by decide) (t := (.object "com/example/plebiscite/plebiscite/core/Constraint$Kind")) (t' := (.object "java/lang/String")) (by decide) (by decide)))).other R23 (Or.inr (slot_ne (Or.inr (w80 hw)) (Or.inr (w84 hw)) (by decide) (t := (.object "com/example/plebiscite/plebiscite/core/Constraint$Kind")) (t' := (.object "java/lang/String")) (by decide) (by decide))))
  have c25 := (F20.other R23 (Or.inr (slot_ne (Or.inr (w82 hw)) (Or.inr (w84 hw)) (by decide) (t := (.object "java/lang/String")) (t' := (.object "java/lang/String")) (by decide) (by decide))))
  have c26 := (c21.wr R23)
  exact o_ret0 W23 hlk hret (hb hy d8_42) (by decide) (by decide) ⟨c24, c25, F23, rfl⟩
theorem rm20 (l : Launch) (Z : State) (a0 : Array Value) (hw : ∀ d ∈ tables_1, d.before a0 Z = true) (a1 a2 : Addr) (k_a1 : ClassId) (x1 x2 : Int32) (k_a2 : ClassId) (x3 x4 : Int32) (h0 : Heap) (O0 : Old Z Z.heap.size h0) (V_a1 : Arv Z h0 a1 k_a1 .byte (2 : Int32) [(.int (StrChars.lo8 x1)), (.int (StrChars.lo8 x2))] (.int 0)) (V_a2 : Arv Z h0 a2 k_a2 .byte (2 : Int32) [(.int (StrChars.lo8 x3)), (.int (StrChars.lo8 x4))] (.int 0)) (hc1 : ¬ ((StrChars.lo8 x1) = (StrChars.lo8 x3))) :
    CtrN l Z (⟨"jdk/internal/util/ArraysSupport", "mismatch", "([B[BI)I"⟩ : MethodName) jdk_48_method_13_code 4 (some .int) [] (⟨0, 0, 0, 0⟩ : Room) #[(.ref a1), (.ref a2), (.int 2)] h0 [] (fun v h => v = some (.int 0)) := by
  refine CtrN.intro (L0 := #[.val (.ref a1), .val (.ref a2), .val (.int 2), .unset]) (plainFor_of_name pn3) O0 (fun m => by first | rfl | (simp [entryFrame, mkF, argsToLocals, Value.category]; done)) ?_
  intro p e s m below meth c T0 hy hml hret hlk hnm W0
  refine o_iconst W0 (v := 0) (pc' := 1) (hb hy d15_0) rfl rfl ?_
  refine o_istoreN W0 (L' := #[.val (.ref a1), .val (.ref a2), .val (.int 2), .val (.int 0)]) (pc' := 2) (hb hy d15_1) rfl rfl ?_
  refine o_iloadN W0 (pc' := 3) (hb hy d15_2) rfl rfl ?_
  refine o_bipush W0 (v := 7) (pc' := 5) (hb hy d15_3) (by decide) rfl ?_
  refine o_icmpY W0 (pc' := 49) (hb hy d15_5) (XT.ii_le_t (by decide)) (by decide) rfl ?_
  refine o_iloadN W0 (pc' := 50) (hb hy d15_49) rfl rfl ?_
  refine o_iloadN W0 (pc' := 51) (hb hy d15_50) rfl rfl ?_
  refine o_icmpN W0 (pc' := 54) (hb hy d15_51) (XT.ii_ge_f (by decide)) rfl ?_
  refine o_aloadN W0 (pc' := 55) (hb hy d15_54) rfl rfl rfl ?_
  refine o_iloadN W0 (pc' := 56) (hb hy d15_55) rfl rfl ?_
  refine o_baload W0 V_a1 (x := (StrChars.lo8 x1)) (i := 0) (by decide) (by decide) (by decide) rfl (pc' := 57) (hb hy d15_56) rfl ?_
  refine o_aloadN W0 (pc' := 58) (hb hy d15_57) rfl rfl rfl ?_
  refine o_iloadN W0 (pc' := 59) (hb hy d15_58) rfl rfl ?_
  refine o_baload W0 V_a2 (x := (StrChars.lo8 x3)) (i := 0) (by decide) (by decide) (by decide) rfl (pc' := 60) (hb hy d15_59) rfl ?_
  refine o_icmpN W0 (pc' := 63) (hb hy d15_60) (XT.ii_eq_f hc1) rfl ?_
  refine o_iloadN W0 (pc' := 64) (hb hy d15_63) rfl rfl ?_
  exact o_retI W0 hlk hret (hb hy d15_64) (by decide) (by decide) rfl
theorem rm21 (l : Launch) (Z : State) (a0 : Array Value) (hw : ∀ d ∈ tables_1, d.before a0 Z = true) (a1 : Addr) (k_a1 : ClassId) (x1 x2 : Int32) (h0 : Heap) (O0 : Old Z Z.heap.size h0) (V_a1 : Arv Z h0 a1 k_a1 .byte (2 : Int32) [(.int (StrChars.lo8 x1)), (.int (StrChars.lo8 x2))] (.int 0)) :
    CtrN l Z (⟨"java/lang/StringLatin1", "getChar", "([BI)C"⟩ : MethodName) jdk_43_method_44_code 2 (some .char) [] (⟨0, 0, 0, 0⟩ : Room) #[(.ref a1), (.int 0)] h0 [] (fun v h => v = some (.int ((StrChars.lo8 x1) &&& (255 : Int32)))) := by
  refine CtrN.intro (L0 := #[.val (.ref a1), .val (.int 0)]) (plainFor_of_name pn4) O0 (fun m => by first | rfl | (simp [entryFrame, mkF, argsToLocals, Value.category]; done)) ?_
  intro p e s m below meth c T0 hy hml hret hlk hnm W0
  refine o_aloadN W0 (pc' := 1) (hb hy d16_0) rfl rfl rfl ?_
  refine o_iloadN W0 (pc' := 2) (hb hy d16_1) rfl rfl ?_
  refine o_baload W0 V_a1 (x := (StrChars.lo8 x1)) (i := 0) (by decide) (by decide) (by decide) rfl (pc' := 3) (hb hy d16_2) rfl ?_
  refine o_sipush W0 (v := 255) (pc' := 6) (hb hy d16_3) (by decide) rfl ?_
  refine o_iand W0 (v := ((StrChars.lo8 x1) &&& (255 : Int32))) (pc' := 7) (hb hy d16_6) rfl rfl ?_
  refine o_i2c W0 (v := ((StrChars.lo8 x1) &&& (255 : Int32))) (pc' := 8) (hb hy d16_7) (own_i2c (own_b255 _)) rfl ?_
  exact o_retN W0 hlk (t := .char) hret (by simp) (z' := ((StrChars.lo8 x1) &&& (255 : Int32))) (own_i2c (own_b255 _)) (hb hy d16_8) (by decide) (by decide) rfl
theorem rm22 (l : Launch) (Z : State) (a0 : Array Value) (hw : ∀ d ∈ tables_1, d.before a0 Z = true) (a1 a2 : Addr) (k_a1 : ClassId) (x1 x2 : Int32) (k_a2 : ClassId) (x3 x4 : Int32) (h0 : Heap) (O0 : Old Z Z.heap.size h0) (V_a1 : Arv Z h0 a1 k_a1 .byte (2 : Int32) [(.int (StrChars.lo8 x1)), (.int (StrChars.lo8 x2))] (.int 0)) (V_a2 : Arv Z h0 a2 k_a2 .byte (2 : Int32) [(.int (StrChars.lo8 x3)), (.int (StrChars.lo8 x4))] (.int 0)) (hc4 : ¬ ((StrChars.lo8 x1) = (StrChars.lo8 x3))) :
    CtrN l Z (⟨"java/lang/StringLatin1", "compareTo", "([B[BII)I"⟩ : MethodName) jdk_43_method_15_code 6 (some .int) [] (⟨1, 0, 0, 15⟩ : Room) #[(.ref a1), (.ref a2), (.int 2), (.int 2)] h0 [] (fun v h => v = some (.int (((StrChars.lo8 x1) &&& (255 : Int32)) - ((StrChars.lo8 x3) &&& (255 : Int32))))) := by
  refine CtrN.intro (L0 := #[.val (.ref a1), .val (.ref a2), .val (.int 2), .val (.int 2), .unset, .unset]) (plainFor_of_name pn4) O0 (fun m => by first | rfl | (simp [entryFrame, mkF, argsToLocals, Value.category]; done)) ?_
  intro p e s m below meth c T0 hy hml hret hlk hnm W0
  refine o_iloadN W0 (pc' := 1) (hb hy d13_0) rfl rfl ?_
  refine o_iloadN W0 (pc' := 2) (hb hy d13_1) rfl rfl ?_
  refine o_static W0 (y := (⟨"java/lang/Math", "min", "(II)I"⟩ : MethodName)) (w68 hw) (w69 hw) (w70 hw) (w71 hw) (by decide) (argsL := [(.int 2), (.int 2)]) (CtrN.back (Wd := 0) W0 (rm4 l Z a0 hw  h0 W0.old ) (w71 hw) (w70 hw) (by decide) (by decide)) (by rw [hml]; rfl) (lenOf pd4 rfl) (S := []) rfl (by exact Nat.le_of_eq rfl) (pc' := 5) (hb hy d13_2) rfl (cells' := 0) (slots' := 0) rfl rfl (by decide) (by decide) (wy := []) (fun _ _ _ q => ⟨q.1, q.2.1⟩) all0 (fun _ _ => trivial) ?_
  intro v1 T1 h1 lo1 W1 K1 q1
  obtain rfl := q1.2.2
  show Gl _ _ _ _ _ _ _ _ [(.int 2)]
  refine o_istore W1 (L' := #[.val (.ref a1), .val (.ref a2), .val (.int 2), .val (.int 2), .val (.int 2), .unset]) (pc' := 7) (hb hy d13_5) rfl rfl ?_
  refine o_aloadN W1 (pc' := 8) (hb hy d13_7) rfl rfl rfl ?_
  refine o_aloadN W1 (pc' := 9) (hb hy d13_8) rfl rfl rfl ?_
  refine o_iload W1 (pc' := 11) (hb hy d13_9) rfl rfl ?_
  have c2 := (V_a1.keep K1 nin0)
  have c3 := (V_a2.keep K1 nin0)
  refine o_static W1 (y := (⟨"jdk/internal/util/ArraysSupport", "mismatch", "([B[BI)I"⟩ : MethodName)) (w72 hw) (w73 hw) (w74 hw) (w75 hw) (by decide) (argsL := [(.ref a1), (.ref a2), (.int 2)]) (CtrN.back (Wd := 0) W1 (rm20 l Z a0 hw a1 a2 k_a1 x1 x2 k_a2 x3 x4 h1 W1.old c2 c3 hc4) (w75 hw) (w74 hw) (by decide) (by decide)) (by rw [hml]; rfl) (lenOf pd5 rfl) (S := []) rfl (by exact Nat.le_of_eq rfl) (pc' := 14) (hb hy d13_11) rfl (cells' := 0) (slots' := 0) rfl rfl (by decide) (by decide) (wy := []) (fun _ _ _ q => ⟨q.1, q.2.1⟩) all0 (fun _ _ => trivial) ?_
  intro v5 T5 h5 lo5 W5 K5 q5
  obtain rfl := q5.2.2
  show Gl _ _ _ _ _ _ _ _ [(.int 0)]
  refine o_istore W5 (L' := #[.val (.ref a1), .val (.ref a2), .val (.int 2), .val (.int 2), .val (.int 2), .val (.int 0)]) (pc' := 16) (hb hy d13_14) rfl rfl ?_
  refine o_iload W5 (pc' := 18) (hb hy d13_16) rfl rfl ?_
  refine o_ifY W5 (pc' := 27) (hb hy d13_18) (XT.i0_ge_t (by decide)) (by decide) rfl ?_
  refine o_aloadN W5 (pc' := 28) (hb hy d13_27) rfl rfl rfl ?_
  refine o_iload W5 (pc' := 30) (hb hy d13_28) rfl rfl ?_
  have c6 := (c2.keep K5 nin0)
  refine o_static W5 (y := (⟨"java/lang/StringLatin1", "getChar", "([BI)C"⟩ : MethodName)) (w76 hw) (w77 hw) (w63 hw) (w78 hw) (by decide) (argsL := [(.ref a1), (.int 0)]) (CtrN.back (Wd := 0) W5 (rm21 l Z a0 hw a1 k_a1 x1 x2 h5 W5.old c6) (w78 hw) (w63 hw) (by decide) (by decide)) (by rw [hml]; rfl) (lenOf pd12 rfl) (S := []) rfl (by exact Nat.le_of_eq rfl) (pc' := 33) (hb hy d13_30) rfl (cells' := 0) (slots' := 0) rfl rfl (by decide) (by decide) (wy := []) (fun _ _ _ q => ⟨q.1, q.2.1⟩) all0 (fun _ _ => trivial) ?_
  intro v7 T7 h7 lo7 W7 K7 q7
  obtain rfl := q7.2.2
  show Gl _ _ _ _ _ _ _ _ [(.int ((StrChars.lo8 x1) &&& (255 : Int32)))]
  refine o_aloadN W7 (pc' := 34) (hb hy d13_33) rfl rfl rfl ?_
  refine o_iload W7 (pc' := 36) (hb hy d13_34) rfl rfl ?_
  have c8 := ((c3.keep K5 nin0).keep K7 nin0)
  refine o_static W7 (y := (⟨"java/lang/StringLatin1", "getChar", "([BI)C"⟩ : MethodName)) (w76 hw) (w77 hw) (w63 hw) (w78 hw) (by decide) (argsL := [(.ref a2), (.int 0)]) (CtrN.back (Wd := 1) W7 (rm21 l Z a0 hw a2 k_a2 x3 x4 h7 W7.old c8) (w78 hw) (w63 hw) (by decide) (by decide)) (by rw [hml]; rfl) (lenOf pd12 rfl) (S := [(.int ((StrChars.lo8 x1) &&& (255 : Int32)))]) rfl (by exact Nat.le_of_eq rfl) (pc' := 39) (hb hy d13_36) rfl (cells' := 0) (slots' := 0) rfl rfl (by decide) (by decide) (wy := []) (fun _ _ _ q => ⟨q.1, q.2.1⟩) all0 (fun _ _ => trivial) ?_
  intro v9 T9 h9 lo9 W9 K9 q9
  obtain rfl := q9.2.2
  show Gl _ _ _ _ _ _ _ _ [(.int ((StrChars.lo8 x3) &&& (255 : Int32))), (.int ((StrChars.lo8 x1) &&& (255 : Int32)))]
  refine o_isub W9 (v := (((StrChars.lo8 x1) &&& (255 : Int32)) - ((StrChars.lo8 x3) &&& (255 : Int32)))) (pc' := 40) (hb hy d13_39) rfl rfl ?_
  exact o_retI W9 hlk hret (hb hy d13_40) (by decide) (by decide) rfl
theorem rm23 (l : Launch) (Z : State) (a0 : Array Value) (hw : ∀ d ∈ tables_1, d.before a0 Z = true) (a1 a2 : Addr) (k_a1 : ClassId) (x1 x2 : Int32) (k_a2 : ClassId) (x3 x4 : Int32) (h0 : Heap) (O0 : Old Z Z.heap.size h0) (V_a1 : Arv Z h0 a1 k_a1 .byte (2 : Int32) [(.int (StrChars.lo8 x1)), (.int (StrChars.lo8 x2))] (.int 0)) (V_a2 : Arv Z h0 a2 k_a2 .byte (2 : Int32) [(.int (StrChars.lo8 x3)), (.int (StrChars.lo8 x4))] (.int 0)) (hc1 : ¬ ((StrChars.lo8 x1) = (StrChars.lo8 x3))) :
    CtrN l Z (⟨"java/lang/StringLatin1", "compareTo", "([B[B)I"⟩ : MethodName) jdk_43_method_14_code 4 (some .int) [] (⟨2, 0, 0, 32⟩ : Room) #[(.ref a1), (.ref a2)] h0 [] (fun v h => v = some (.int (((StrChars.lo8 x1) &&& (255 : Int32)) - ((StrChars.lo8 x3) &&& (255 : Int32))))) := by
  refine CtrN.intro (L0 := #[.val (.ref a1), .val (.ref a2), .unset, .unset]) (plainFor_of_name pn4) O0 (fun m => by first | rfl | (simp [entryFrame, mkF, argsToLocals, Value.category]; done)) ?_
  intro p e s m below meth c T0 hy hml hret hlk hnm W0
  refine o_aloadN W0 (pc' := 1) (hb hy d12_0) rfl rfl rfl ?_
  refine o_len W0 V_a1 (pc' := 2) (hb hy d12_1) rfl ?_
  refine o_istoreN W0 (L' := #[.val (.ref a1), .val (.ref a2), .val (.int 2), .unset]) (pc' := 3) (hb hy d12_2) rfl rfl ?_
  refine o_aloadN W0 (pc' := 4) (hb hy d12_3) rfl rfl rfl ?_
  refine o_len W0 V_a2 (pc' := 5) (hb hy d12_4) rfl ?_
  refine o_istoreN W0 (L' := #[.val (.ref a1), .val (.ref a2), .val (.int 2), .val (.int 2)]) (pc' := 6) (hb hy d12_5) rfl rfl ?_
  refine o_aloadN W0 (pc' := 7) (hb hy d12_6) rfl rfl rfl ?_
  refine o_aloadN W0 (pc' := 8) (hb hy d12_7) rfl rfl rfl ?_
  refine o_iloadN W0 (pc' := 9) (hb hy d12_8) rfl rfl ?_
  refine o_iloadN W0 (pc' := 10) (hb hy d12_9) rfl rfl ?_
  refine o_static W0 (y := (⟨"java/lang/StringLatin1", "compareTo", "([B[BII)I"⟩ : MethodName)) (w65 hw) (w66 hw) (w63 hw) (w67 hw) (by decide) (argsL := [(.ref a1), (.ref a2), (.int 2), (.int 2)]) (CtrN.back (Wd := 0) W0 (rm22 l Z a0 hw a1 a2 k_a1 x1 x2 k_a2 x3 x4 h0 W0.old V_a1 V_a2 hc1) (w67 hw) (w63 hw) (by decide) (by decide)) (by rw [hml]; rfl) (lenOf pd6 rfl) (S := []) rfl (by exact Nat.le_of_eq rfl) (pc' := 13) (hb hy d12_10) rfl (cells' := 0) (slots' := 0) rfl rfl (by decide) (by decide) (wy := []) (fun _ _ _ q => ⟨q.1, q.2.1⟩) all0 (fun _ _ => trivial) ?_
  intro v2 T2 h2 lo2 W2 K2 q2
  obtain rfl := q2.2.2
  show Gl _ _ _ _ _ _ _ _ [(.int (((StrChars.lo8 x1) &&& (255 : Int32)) - ((StrChars.lo8 x3) &&& (255 : Int32))))]
  exact o_retI W2 hlk hret (hb hy d12_13) (by decide) (by decide) rfl
theorem rm24 (l : Launch) (Z : State) (a0 : Array Value) (hw : ∀ d ∈ tables_1, d.before a0 Z = true) (gCS : Int32) (a1 a2 a3 a4 : Addr) (k_a3 : ClassId) (x1 x2 : Int32) (k_a4 : ClassId) (x3 x4 : Int32) (h0 : Heap) (O0 : Old Z Z.heap.size h0) (F_a1_value : Fld Z h0 a1 "java/lang/String" "value" "[B" (.ref a3)) (F_a2_value : Fld Z h0 a2 "java/lang/String" "value" "[B" (.ref a4)) (E_a1 : Exa Z h0 a1 "java/lang/String") (SgCS : Sta Z Z.heap "java/lang/String" "COMPACT_STRINGS" "Z" (.int gCS)) (NgCS : ¬ (gCS = (0 : Int32))) (F_a1_coder : Fld Z h0 a1 "java/lang/String" "coder" "B" (.int 0)) (E_a2 : Exa Z h0 a2 "java/lang/String") (F_a2_coder : Fld Z h0 a2 "java/lang/String" "coder" "B" (.int 0)) (V_a3 : Arv Z h0 a3 k_a3 .byte (2 : Int32) [(.int (StrChars.lo8 x1)), (.int (StrChars.lo8 x2))] (.int 0)) (V_a4 : Arv Z h0 a4 k_a4 .byte (2 : Int32) [(.int (StrChars.lo8 x3)), (.int (StrChars.lo8 x4))] (.int 0)) (hc9 : ¬ ((StrChars.lo8 x1) = (StrChars.lo8 x3))) :
    CtrN l Z (⟨"java/lang/String", "compareTo", "(Ljava/lang/String;)I"⟩ : MethodName) jdk_42_method_71_code 5 (some .int) [] (⟨3, 0, 0, 47⟩ : Room) #[(.ref a1), (.ref a2)] h0 [] (fun v h => v = some (.int (((StrChars.lo8 x1) &&& (255 : Int32)) - ((StrChars.lo8 x3) &&& (255 : Int32))))) := by
  refine CtrN.intro (L0 := #[.val (.ref a1), .val (.ref a2), .unset, .unset, .unset]) (plainFor_of_name pn2) O0 (fun m => by first | rfl | (simp [entryFrame, mkF, argsToLocals, Value.category]; done)) ?_
  intro p e s m below meth c T0 hy hml hret hlk hnm W0
  refine o_aloadN W0 (pc' := 1) (hb hy d10_0) rfl rfl rfl ?_
  refine o_getF W0 (w28 hw) Via.refl F_a1_value (pc' := 4) (hb hy d10_1) rfl ?_
  intro T1 W1
  refine o_astoreN W1 (L' := #[.val (.ref a1), .val (.ref a2), .val (.ref a3), .unset, .unset]) (pc' := 5) (hb hy d10_4) rfl rfl rfl ?_
  refine o_aloadN W1 (pc' := 6) (hb hy d10_5) rfl rfl rfl ?_
  refine o_getF W1 (w28 hw) Via.refl F_a2_value (pc' := 9) (hb hy d10_6) rfl ?_
  intro T2 W2
  refine o_astoreN W2 (L' := #[.val (.ref a1), .val (.ref a2), .val (.ref a3), .val (.ref a4), .unset]) (pc' := 10) (hb hy d10_9) rfl rfl rfl ?_
  refine o_aloadN W2 (pc' := 11) (hb hy d10_10) rfl rfl rfl ?_
  refine o_virtual W2 (y := (⟨"java/lang/String", "coder", "()B"⟩ : MethodName)) (z := (⟨"java/lang/String", "coder", "()B"⟩ : MethodName)) (w56 hw) (w57 hw) (o_nf W2 rfl (w59 hw)) (w59 hw) (w58 hw) (by decide) E_a1 (argsL := []) (CtrN.back (Wd := 0) W2 (rm3 l Z a0 hw gCS a1 h0 W2.old SgCS NgCS F_a1_coder) (w60 hw) (w3 hw) (by decide) (by decide)) (by rw [hml]; rfl) (lenOf pd3 rfl) (S := []) rfl (by exact Nat.le_of_eq rfl) (pc' := 14) (hb hy d10_11) rfl (cells' := 0) (slots' := 0) rfl rfl (by decide) (by decide) (wy := []) (fun _ _ _ q => ⟨q.1, q.2.1⟩) all0 (fun _ _ => trivial) ?_
  intro v3 T3 h3 lo3 W3 K3 q3
  obtain rfl := q3.2.2
  show Gl _ _ _ _ _ _ _ _ [(.int 0)]
  refine o_istore W3 (L' := #[.val (.ref a1), .val (.ref a2), .val (.ref a3), .val (.ref a4), .val (.int 0)]) (pc' := 16) (hb hy d10_14) rfl rfl ?_
  refine o_iload W3 (pc' := 18) (hb hy d10_16) rfl rfl ?_
  refine o_aloadN W3 (pc' := 19) (hb hy d10_18) rfl rfl rfl ?_
  have c4 := (E_a2.keep K3)
  have c5 := (F_a2_coder.keep K3 nin0)
  refine o_virtual W3 (y := (⟨"java/lang/String", "coder", "()B"⟩ : MethodName)) (z := (⟨"java/lang/String", "coder", "()B"⟩ : MethodName)) (w56 hw) (w57 hw) (o_nf W3 rfl (w59 hw)) (w59 hw) (w58 hw) (by decide) c4 (argsL := []) (CtrN.back (Wd := 1) W3 (rm3 l Z a0 hw gCS a2 h3 W3.old SgCS NgCS c5) (w60 hw) (w3 hw) (by decide) (by decide)) (by rw [hml]; rfl) (lenOf pd3 rfl) (S := [(.int 0)]) rfl (by exact Nat.le_of_eq rfl) (pc' := 22) (hb hy d10_19) rfl (cells' := 0) (slots' := 0) rfl rfl (by decide) (by decide) (wy := []) (fun _ _ _ q => ⟨q.1, q.2.1⟩) all0 (fun _ _ => trivial) ?_
  intro v6 T6 h6 lo6 W6 K6 q6
  obtain rfl := q6.2.2
  show Gl _ _ _ _ _ _ _ _ [(.int 0), (.int 0)]
  refine o_icmpN W6 (pc' := 25) (hb hy d10_22) (XT.ii_ne_f (by decide)) rfl ?_
  refine o_iload W6 (pc' := 27) (hb hy d10_25) rfl rfl ?_
  refine o_ifN W6 (pc' := 30) (hb hy d10_27) (XT.i0_ne_f (by decide)) rfl ?_
  refine o_aloadN W6 (pc' := 31) (hb hy d10_30) rfl rfl rfl ?_
  refine o_aloadN W6 (pc' := 32) (hb hy d10_31) rfl rfl rfl ?_
  have c7 := ((V_a3.keep K3 nin0).keep K6 nin0)
  have c8 := ((V_a4.keep K3 nin0).keep K6 nin0)
  refine o_static W6 (y := (⟨"java/lang/StringLatin1", "compareTo", "([B[B)I"⟩ : MethodName)) (w61 hw) (w62 hw) (w63 hw) (w64 hw) (by decide) (argsL := [(.ref a3), (.ref a4)]) (CtrN.back (Wd := 0) W6 (rm23 l Z a0 hw a3 a4 k_a3 x1 x2 k_a4 x3 x4 h6 W6.old c7 c8 hc9) (w64 hw) (w63 hw) (by decide) (by decide)) (by rw [hml]; rfl) (lenOf pd7 rfl) (S := []) rfl (by exact Nat.le_of_eq rfl) (pc' := 35) (hb hy d10_32) rfl (cells' := 0) (slots' := 0) rfl rfl (by decide) (by decide) (wy := []) (fun _ _ _ q => ⟨q.1, q.2.1⟩) all0 (fun _ _ => trivial) ?_
  intro v10 T10 h10 lo10 W10 K10 q10
  obtain rfl := q10.2.2
  show Gl _ _ _ _ _ _ _ _ [(.int (((StrChars.lo8 x1) &&& (255 : Int32)) - ((StrChars.lo8 x3) &&& (255 : Int32))))]
  refine o_goto W10 (pc' := 43) (hb hy d10_35) (by decide) rfl ?_
  exact o_retI W10 hlk hret (hb hy d10_43) (by decide) (by decide) rfl
theorem rm25 (l : Launch) (Z : State) (a0 : Array Value) (hw : ∀ d ∈ tables_1, d.before a0 Z = true) (gCS : Int32) (gN a1 a2 a3 a4 a5 : Addr) (k_a4 : ClassId) (x1 x2 : Int32) (k_a5 : ClassId) (x3 x4 : Int32) (h0 : Heap) (O0 : Old Z Z.heap.size h0) (SgN_NON_COMMUTING : Sta Z Z.heap "com/example/plebiscite/plebiscite/core/Constraint$Kind" "NON_COMMUTING" "Lcom/example/plebiscite/plebiscite/core/Constraint$Kind;" (.ref gN)) (E_a2 : Exa Z h0 a2 "java/lang/String") (F_a2_value : Fld Z h0 a2 "java/lang/String" "value" "[B" (.ref a4)) (F_a3_value : Fld Z h0 a3 "java/lang/String" "value" "[B" (.ref a5)) (SgCS : Sta Z Z.heap "java/lang/String" "COMPACT_STRINGS" "Z" (.int gCS)) (NgCS : ¬ (gCS = (0 : Int32))) (F_a2_coder : Fld Z h0 a2 "java/lang/String" "coder" "B" (.int 0)) (E_a3 : Exa Z h0 a3 "java/lang/String") (F_a3_coder : Fld Z h0 a3 "java/lang/String" "coder" "B" (.int 0)) (V_a4 : Arv Z h0 a4 k_a4 .byte (2 : Int32) [(.int (StrChars.lo8 x1)), (.int (StrChars.lo8 x2))] (.int 0)) (V_a5 : Arv Z h0 a5 k_a5 .byte (2 : Int32) [(.int (StrChars.lo8 x3)), (.int (StrChars.lo8 x4))] (.int 0)) (hc11 : ¬ ((StrChars.lo8 x1) = (StrChars.lo8 x3))) (hc13 : ¬ ((0 : Int32) < (((StrChars.lo8 x1) &&& (255 : Int32)) - ((StrChars.lo8 x3) &&& (255 : Int32))))) (E_a1 : Exa Z h0 a1 "com/example/plebiscite/plebiscite/core/Constraint") (F_a1_kind : Fld Z h0 a1 "com/example/plebiscite/plebiscite/core/Constraint" "kind" "Lcom/example/plebiscite/plebiscite/core/Constraint$Kind;" .null) (g_a1 : Z.heap.size ≤ a1) (F_a1_first : Fld Z h0 a1 "com/example/plebiscite/plebiscite/core/Constraint" "first" "Ljava/lang/String;" .null) (F_a1_second : Fld Z h0 a1 "com/example/plebiscite/plebiscite/core/Constraint" "second" "Ljava/lang/String;" .null) :
    CtrN l Z (⟨"com/example/plebiscite/plebiscite/core/Constraint", "<init>", "(Lcom/example/plebiscite/plebiscite/core/Constraint$Kind;Ljava/lang/String;Ljava/lang/String;)V"⟩ : MethodName) prog_19_method_1_code 5 none [] (⟨4, 0, 0, 63⟩ : Room) #[(.ref a1), (.ref gN), (.ref a2), (.ref a3)] h0 [a1] (fun v h => Fld Z h a1 "com/example/plebiscite/plebiscite/core/Constraint" "kind" "Lcom/example/plebiscite/plebiscite/core/Constraint$Kind;" (.ref gN) ∧ Fld Z h a1 "com/example/plebiscite/plebiscite/core/Constraint" "first" "Ljava/lang/String;" (.ref a2) ∧ Fld Z h a1 "com/example/plebiscite/plebiscite/core/Constraint" "second" "Ljava/lang/String;" (.ref a3) ∧ v = none) := by
  refine CtrN.intro (L0 := #[.val (.ref a1), .val (.ref gN), .val (.ref a2), .val (.ref a3), .unset]) (plainFor_of_name pn5) O0 (fun m => by first | rfl | (simp [entryFrame, mkF, argsToLocals, Value.category]; done)) ?_
  intro p e s m below meth c T0 hy hml hret hlk hnm W0
  refine o_aloadN W0 (pc' := 1) (hb hy d8_0) rfl rfl rfl ?_
  refine o_special W0 (y := (⟨"java/lang/Record", "<init>", "()V"⟩ : MethodName)) rfl (w44 hw) (w45 hw) (w48 hw) (by decide) (a := a1) (argsL := []) (CtrN.back (Wd := 0) W0 (rm2 l Z a0 hw a1 h0 W0.old ) (w48 hw) (w47 hw) (by decide) (by decide)) (by rw [hml]; rfl) (lenOf pd2 rfl) (S := []) rfl (by exact Nat.le_of_eq rfl) (pc' := 4) (hb hy d8_1) rfl (cells' := 0) (slots' := 0) rfl rfl (by decide) (by decide) (wy := []) (fun _ _ _ q => ⟨q.1, q.2.1⟩) all0 (fun _ _ => trivial) ?_
  intro v1 T1 h1 lo1 W1 K1 q1
  obtain rfl := q1.2.2
  show Gl _ _ _ _ _ _ _ _ []
  refine o_aloadN W1 (pc' := 5) (hb hy d8_4) rfl rfl rfl ?_
  refine o_getS W1 (w50 hw) Via.refl (SgN_NON_COMMUTING.ext W1.ox) (pc' := 8) (hb hy d8_5) rfl ?_
  intro T2 W2
  refine o_acmpN W2 (pc' := 11) (hb hy d8_8) rfl rfl (XT.aa_ne_f rfl) rfl ?_
  refine o_aloadN W2 (pc' := 12) (hb hy d8_11) rfl rfl rfl ?_
  refine o_aloadN W2 (pc' := 13) (hb hy d8_12) rfl rfl rfl ?_
  have c3 := (E_a2.keep K1)
  have c4 := (F_a2_value.keep K1 nin0)
  have c5 := (F_a3_value.keep K1 nin0)
  have c6 := (F_a2_coder.keep K1 nin0)
  have c7 := (E_a3.keep K1)
  have c8 := (F_a3_coder.keep K1 nin0)
  have c9 := (V_a4.keep K1 nin0)
  have c10 := (V_a5.keep K1 nin0)
  refine o_virtual W2 (y := (⟨"java/lang/String", "compareTo", "(Ljava/lang/String;)I"⟩ : MethodName)) (z := (⟨"java/lang/String", "compareTo", "(Ljava/lang/String;)I"⟩ : MethodName)) (w51 hw) (w52 hw) (o_nf W2 rfl (w54 hw)) (w54 hw) (w53 hw) (by decide) c3 (argsL := [(.ref a3)]) (CtrN.back (Wd := 0) W2 (rm24 l Z a0 hw gCS a2 a3 a4 a5 k_a4 x1 x2 k_a5 x3 x4 h1 W2.old c4 c5 c3 SgCS NgCS c6 c7 c8 c9 c10 hc11) (w55 hw) (w3 hw) (by decide) (by decide)) (by rw [hml]; rfl) (lenOf pd8 rfl) (S := []) rfl (by exact Nat.le_of_eq rfl) (pc' := 16) (hb hy d8_13) rfl (cells' := 0) (slots' := 0) rfl rfl (by decide) (by decide) (wy := []) (fun _ _ _ q => ⟨q.1, q.2.1⟩) all0 (fun _ _ => trivial) ?_
  intro v12 T12 h12 lo12 W12 K12 q12
  obtain rfl := q12.2.2
  show Gl _ _ _ _ _ _ _ _ [(.int (((StrChars.lo8 x1) &&& (255 : Int32)) - ((StrChars.lo8 x3) &&& (255 : Int32))))]
  refine o_ifY W12 (pc' := 27) (hb hy d8_16) (XT.i0_le_t hc13) (by decide) rfl ?_
  refine o_aloadN W12 (pc' := 28) (hb hy d8_27) rfl rfl rfl ?_
  refine o_aloadN W12 (pc' := 29) (hb hy d8_28) rfl rfl rfl ?_
  have c14 := ((E_a1.keep K1).keep K12)
  have c15 := ((F_a1_kind.keep K1 nin0).keep K12 nin0)
  refine o_putF W12 (w79 hw) Via.refl c15 c14 (Or.inr ⟨(w80 hw), rfl, hnm⟩) (w31 hw) (ty := (.object "com/example/plebiscite/plebiscite/core/Constraint$Kind")) (v' := (.ref gN)) (by decide) rfl rfl g_a1 (Or.inl (List.mem_of_getElem? (i := 0) rfl)) (fun _ _ => trivial) (pc' := 32) (hb hy d8_29) rfl ?_
  intro T16 h16 lo16 W16 R16
  have F16 := c15.same R16
  refine o_aloadN W16 (pc' := 33) (hb hy d8_32) rfl rfl rfl ?_
  refine o_aloadN W16 (pc' := 34) (hb hy d8_33) rfl rfl rfl ?_
  have c17 := (c14.wr R16)
  have c18 := (((F_a1_first.keep K1 nin0).keep K12 nin0).other R16 (Or.inr (slot_ne (Or.inr (w82 hw)) (Or.inr (w80 hw)) (by decide) (t := (.object "java/lang/String")) (t' := (.object "com/example/plebiscite/plebiscite/core/Constraint$Kind")) (by decide) (by decide))))
  refine o_putF W16 (w81 hw) Via.refl c18 c17 (Or.inr ⟨(w82 hw), rfl, hnm⟩) (w31 hw) (ty := (.object "java/lang/String")) (v' := (.ref a2)) (by decide) rfl rfl g_a1 (Or.inl (List.mem_of_getElem? (i := 0) rfl)) (fun _ _ => trivial) (pc' := 37) (hb hy d8_34) rfl ?_
  intro T19 h19 lo19 W19 R19
  have F19 := c18.same R19
  refine o_aloadN W19 (pc' := 38) (hb hy d8_37) rfl rfl rfl ?_
  refine o_aloadN W19 (pc' := 39) (hb hy d8_38) rfl rfl rfl ?_
  have c20 := (c17.wr R19)
  have c21 := ((((F_a1_second.keep K1 nin0).keep K12 nin0).other R16 (Or.inr (slot_ne (Or.inr (w84 hw)) (Or.inr (w80 hw)) (by decide) (t := (.object "java/lang/String")) (t' := (.object "com/example/plebiscite/plebiscite/core/Constraint$Kind")) (by decide) (by decide)))).other R19 (Or.inr (slot_ne (Or.inr (w84 hw)) (Or.inr (w82 hw)) (by decide) (t := (.object "java/lang/String")) (t' := (.object "java/lang/String")) (by decide) (by decide))))
  refine o_putF W19 (w83 hw) Via.refl c21 c20 (Or.inr ⟨(w84 hw), rfl, hnm⟩) (w31 hw) (ty := (.object "java/lang/String")) (v' := (.ref a3)) (by decide) rfl rfl g_a1 (Or.inl (List.mem_of_getElem? (i := 0) rfl)) (fun _ _ => trivial) (pc' := 42) (hb hy d8_39) rfl ?_
  intro T22 h22 lo22 W22 R22
  have F22 := c21.same R22
  have c23 := ((F16.other R19 (Or.inr (slot_ne (Or.inr (w80 hw)) (Or.inr (w82 hw)) (by decide) (t := (.object "com/example/plebiscite/plebiscite/core/Constraint$Kind")) (t' := (.object "java/lang/String")) (by decide) (by decide)))).other R22 (Or.inr (slot_ne (Or.inr (w80 hw)) (Or.inr (w84 hw)) (by decide) (t := (.object "com/example/plebiscite/plebiscite/core/Constraint$Kind")) (t' := (.object "java/lang/String")) (by decide) (by decide))))
  have c24 := (F19.other R22 (Or.inr (slot_ne (Or.inr (w82 hw)) (Or.inr (w84 hw)) (by decide) (t := (.object "java/lang/String")) (t' := (.object "java/lang/String")) (by decide) (by decide))))
  have c25 := (c20.wr R22)
  exact o_ret0 W22 hlk hret (hb hy d8_42) (by decide) (by decide) ⟨c23, c24, F22, rfl⟩
theorem rm26 (l : Launch) (Z : State) (a0 : Array Value) (hw : ∀ d ∈ tables_1, d.before a0 Z = true) (gCS : Int32) (gN a1 a2 a3 a4 a5 : Addr) (k_a4 : ClassId) (x1 x2 : Int32) (k_a5 : ClassId) (x3 x4 : Int32) (h0 : Heap) (O0 : Old Z Z.heap.size h0) (SgN_NON_COMMUTING : Sta Z Z.heap "com/example/plebiscite/plebiscite/core/Constraint$Kind" "NON_COMMUTING" "Lcom/example/plebiscite/plebiscite/core/Constraint$Kind;" (.ref gN)) (E_a2 : Exa Z h0 a2 "java/lang/String") (F_a2_value : Fld Z h0 a2 "java/lang/String" "value" "[B" (.ref a4)) (F_a3_value : Fld Z h0 a3 "java/lang/String" "value" "[B" (.ref a5)) (SgCS : Sta Z Z.heap "java/lang/String" "COMPACT_STRINGS" "Z" (.int gCS)) (NgCS : ¬ (gCS = (0 : Int32))) (F_a2_coder : Fld Z h0 a2 "java/lang/String" "coder" "B" (.int 0)) (E_a3 : Exa Z h0 a3 "java/lang/String") (F_a3_coder : Fld Z h0 a3 "java/lang/String" "coder" "B" (.int 0)) (V_a4 : Arv Z h0 a4 k_a4 .byte (2 : Int32) [(.int (StrChars.lo8 x1)), (.int (StrChars.lo8 x2))] (.int 0)) (V_a5 : Arv Z h0 a5 k_a5 .byte (2 : Int32) [(.int (StrChars.lo8 x3)), (.int (StrChars.lo8 x4))] (.int 0)) (hc11 : ¬ ((StrChars.lo8 x1) = (StrChars.lo8 x3))) (hc13 : (0 : Int32) < (((StrChars.lo8 x1) &&& (255 : Int32)) - ((StrChars.lo8 x3) &&& (255 : Int32)))) (E_a1 : Exa Z h0 a1 "com/example/plebiscite/plebiscite/core/Constraint") (F_a1_kind : Fld Z h0 a1 "com/example/plebiscite/plebiscite/core/Constraint" "kind" "Lcom/example/plebiscite/plebiscite/core/Constraint$Kind;" .null) (g_a1 : Z.heap.size ≤ a1) (F_a1_first : Fld Z h0 a1 "com/example/plebiscite/plebiscite/core/Constraint" "first" "Ljava/lang/String;" .null) (F_a1_second : Fld Z h0 a1 "com/example/plebiscite/plebiscite/core/Constraint" "second" "Ljava/lang/String;" .null) :
    CtrN l Z (⟨"com/example/plebiscite/plebiscite/core/Constraint", "<init>", "(Lcom/example/plebiscite/plebiscite/core/Constraint$Kind;Ljava/lang/String;Ljava/lang/String;)V"⟩ : MethodName) prog_19_method_1_code 5 none [] (⟨4, 0, 0, 63⟩ : Room) #[(.ref a1), (.ref gN), (.ref a2), (.ref a3)] h0 [a1] (fun v h => Fld Z h a1 "com/example/plebiscite/plebiscite/core/Constraint" "kind" "Lcom/example/plebiscite/plebiscite/core/Constraint$Kind;" (.ref gN) ∧ Fld Z h a1 "com/example/plebiscite/plebiscite/core/Constraint" "first" "Ljava/lang/String;" (.ref a3) ∧ Fld Z h a1 "com/example/plebiscite/plebiscite/core/Constraint" "second" "Ljava/lang/String;" (.ref a2) ∧ v = none) := by
  refine CtrN.intro (L0 := #[.val (.ref a1), .val (.ref gN), .val (.ref a2), .val (.ref a3), .unset]) (plainFor_of_name pn5) O0 (fun m => by first | rfl | (simp [entryFrame, mkF, argsToLocals, Value.category]; done)) ?_
  intro p e s m below meth c T0 hy hml hret hlk hnm W0
  refine o_aloadN W0 (pc' := 1) (hb hy d8_0) rfl rfl rfl ?_
  refine o_special W0 (y := (⟨"java/lang/Record", "<init>", "()V"⟩ : MethodName)) rfl (w44 hw) (w45 hw) (w48 hw) (by decide) (a := a1) (argsL := []) (CtrN.back (Wd := 0) W0 (rm2 l Z a0 hw a1 h0 W0.old ) (w48 hw) (w47 hw) (by decide) (by decide)) (by rw [hml]; rfl) (lenOf pd2 rfl) (S := []) rfl (by exact Nat.le_of_eq rfl) (pc' := 4) (hb hy d8_1) rfl (cells' := 0) (slots' := 0) rfl rfl (by decide) (by decide) (wy := []) (fun _ _ _ q => ⟨q.1, q.2.1⟩) all0 (fun _ _ => trivial) ?_
  intro v1 T1 h1 lo1 W1 K1 q1
  obtain rfl := q1.2.2
  show Gl _ _ _ _ _ _ _ _ []
  refine o_aloadN W1 (pc' := 5) (hb hy d8_4) rfl rfl rfl ?_
  refine o_getS W1 (w50 hw) Via.refl (SgN_NON_COMMUTING.ext W1.ox) (pc' := 8) (hb hy d8_5) rfl ?_
  intro T2 W2
  refine o_acmpN W2 (pc' := 11) (hb hy d8_8) rfl rfl (XT.aa_ne_f rfl) rfl ?_
  refine o_aloadN W2 (pc' := 12) (hb hy d8_11) rfl rfl rfl ?_
  refine o_aloadN W2 (pc' := 13) (hb hy d8_12) rfl rfl rfl ?_
  have c3 := (E_a2.keep K1)
  have c4 := (F_a2_value.keep K1 nin0)
  have c5 := (F_a3_value.keep K1 nin0)
  have c6 := (F_a2_coder.keep K1 nin0)
  have c7 := (E_a3.keep K1)
  have c8 := (F_a3_coder.keep K1 nin0)
  have c9 := (V_a4.keep K1 nin0)
  have c10 := (V_a5.keep K1 nin0)
  refine o_virtual W2 (y := (⟨"java/lang/String", "compareTo", "(Ljava/lang/String;)I"⟩ : MethodName)) (z := (⟨"java/lang/String", "compareTo", "(Ljava/lang/String;)I"⟩ : MethodName)) (w51 hw) (w52 hw) (o_nf W2 rfl (w54 hw)) (w54 hw) (w53 hw) (by decide) c3 (argsL := [(.ref a3)]) (CtrN.back (Wd := 0) W2 (rm24 l Z a0 hw gCS a2 a3 a4 a5 k_a4 x1 x2 k_a5 x3 x4 h1 W2.old c4 c5 c3 SgCS NgCS c6 c7 c8 c9 c10 hc11) (w55 hw) (w3 hw) (by decide) (by decide)) (by rw [hml]; rfl) (lenOf pd8 rfl) (S := []) rfl (by exact Nat.le_of_eq rfl) (pc' := 16) (hb hy d8_13) rfl (cells' := 0) (slots' := 0) rfl rfl (by decide) (by decide) (wy := []) (fun _ _ _ q => ⟨q.1, q.2.1⟩) all0 (fun _ _ => trivial) ?_
  intro v12 T12 h12 lo12 W12 K12 q12
  obtain rfl := q12.2.2
  show Gl _ _ _ _ _ _ _ _ [(.int (((StrChars.lo8 x1) &&& (255 : Int32)) - ((StrChars.lo8 x3) &&& (255 : Int32))))]
  refine o_ifN W12 (pc' := 19) (hb hy d8_16) (XT.i0_le_f hc13) rfl ?_
  refine o_aloadN W12 (pc' := 20) (hb hy d8_19) rfl rfl rfl ?_
  refine o_astore W12 (L' := #[.val (.ref a1), .val (.ref gN), .val (.ref a2), .val (.ref a3), .val (.ref a2)]) (pc' := 22) (hb hy d8_20) rfl rfl rfl ?_
  refine o_aloadN W12 (pc' := 23) (hb hy d8_22) rfl rfl rfl ?_
  refine o_astoreN W12 (L' := #[.val (.ref a1), .val (.ref gN), .val (.ref a3), .val (.ref a3), .val (.ref a2)]) (pc' := 24) (hb hy d8_23) rfl rfl rfl ?_
  refine o_aload W12 (pc' := 26) (hb hy d8_24) rfl rfl rfl ?_
  refine o_astoreN W12 (L' := #[.val (.ref a1), .val (.ref gN), .val (.ref a3), .val (.ref a2), .val (.ref a2)]) (pc' := 27) (hb hy d8_26) rfl rfl rfl ?_
  refine o_aloadN W12 (pc' := 28) (hb hy d8_27) rfl rfl rfl ?_
  refine o_aloadN W12 (pc' := 29) (hb hy d8_28) rfl rfl rfl ?_
  have c14 := ((E_a1.keep K1).keep K12)
  have c15 := ((F_a1_kind.keep K1 nin0).keep K12 nin0)
  refine o_putF W12 (w79 hw) Via.refl c15 c14 (Or.inr ⟨(w80 hw), rfl, hnm⟩) (w31 hw) (ty := (.object "com/example/plebiscite/plebiscite/core/Constraint$Kind")) (v' := (.ref gN)) (by decide) rfl rfl g_a1 (Or.inl (List.mem_of_getElem? (i := 0) rfl)) (fun _ _ => trivial) (pc' := 32) (hb hy d8_29) rfl ?_
  intro T16 h16 lo16 W16 R16
  have F16 := c15.same R16
  refine o_aloadN W16 (pc' := 33) (hb hy d8_32) rfl rfl rfl ?_
  refine o_aloadN W16 (pc' := 34) (hb hy d8_33) rfl rfl rfl ?_
  have c17 := (c14.wr R16)
  have c18 := (((F_a1_first.keep K1 nin0).keep K12 nin0).other R16 (Or.inr (slot_ne (Or.inr (w82 hw)) (Or.inr (w80 hw)) (by decide) (t := (.object "java/lang/String")) (t' := (.object "com/example/plebiscite/plebiscite/core/Constraint$Kind")) (by decide) (by decide))))
  refine o_putF W16 (w81 hw) Via.refl c18 c17 (Or.inr ⟨(w82 hw), rfl, hnm⟩) (w31 hw) (ty := (.object "java/lang/String")) (v' := (.ref a3)) (by decide) rfl rfl g_a1 (Or.inl (List.mem_of_getElem? (i := 0) rfl)) (fun _ _ => trivial) (pc' := 37) (hb hy d8_34) rfl ?_
  intro T19 h19 lo19 W19 R19
  have F19 := c18.same R19
  refine o_aloadN W19 (pc' := 38) (hb hy d8_37) rfl rfl rfl ?_
  refine o_aloadN W19 (pc' := 39) (hb hy d8_38) rfl rfl rfl ?_
  have c20 := (c17.wr R19)
  have c21 := ((((F_a1_second.keep K1 nin0).keep K12 nin0).other R16 (Or.inr (slot_ne (Or.inr (w84 hw)) (Or.inr (w80 hw)) (by decide) (t := (.object "java/lang/String")) (t' := (.object "com/example/plebiscite/plebiscite/core/Constraint$Kind")) (by decide) (by decide)))).other R19 (Or.inr (slot_ne (Or.inr (w84 hw)) (Or.inr (w82 hw)) (by decide) (t := (.object "java/lang/String")) (t' := (.object "java/lang/String")) (by decide) (by decide))))
  refine o_putF W19 (w83 hw) Via.refl c21 c20 (Or.inr ⟨(w84 hw), rfl, hnm⟩) (w31 hw) (ty := (.object "java/lang/String")) (v' := (.ref a2)) (by decide) rfl rfl g_a1 (Or.inl (List.mem_of_getElem? (i := 0) rfl)) (fun _ _ => trivial) (pc' := 42) (hb hy d8_39) rfl ?_
  intro T22 h22 lo22 W22 R22
  have F22 := c21.same R22
  have c23 := ((F16.other R19 (Or.inr (slot_ne (Or.inr (w80 hw)) (Or.inr (w82 hw)) (by decide) (t := (.object "com/example/plebiscite/plebiscite/core/Constraint$Kind")) (t' := (.object "java/lang/String")) (by decide) (by decide)))).other R22 (Or.inr (slot_ne (Or.inr (w80 hw)) (Or.inr (w84 hw)) (by decide) (t := (.object "com/example/plebiscite/plebiscite/core/Constraint$Kind")) (t' := (.object "java/lang/String")) (by decide) (by decide))))
  have c24 := (F19.other R22 (Or.inr (slot_ne (Or.inr (w82 hw)) (Or.inr (w84 hw)) (by decide) (t := (.object "java/lang/String")) (t' := (.object "java/lang/String")) (by decide) (by decide))))
  have c25 := (c20.wr R22)
  exact o_ret0 W22 hlk hret (hb hy d8_42) (by decide) (by decide) ⟨c23, c24, F22, rfl⟩
theorem rm27 (l : Launch) (Z : State) (a0 : Array Value) (hw : ∀ d ∈ tables_1, d.before a0 Z = true) (gE : Addr) (x1 : Int32) (h0 : Heap) (O0 : Old Z Z.heap.size h0) (hc1 : ¬ (((x1 &&& (2147483647 : Int32)) % (3 : Int32)) = (0 : Int32))) (hc2 : ((x1 &&& (2147483647 : Int32)) % (3 : Int32)) = (1 : Int32)) (SgE_ENABLES : Sta Z Z.heap "com/example/plebiscite/plebiscite/core/Constraint$Kind" "ENABLES" "Lcom/example/plebiscite/plebiscite/core/Constraint$Kind;" (.ref gE)) :
    CtrN l Z (⟨"com/example/plebiscite/plebiscite/core/ConstraintOtherPinLaw", "kindOf", "(I)Lcom/example/plebiscite/plebiscite/core/Constraint$Kind;"⟩ : MethodName) method_2_code 2 (some (.object "com/example/plebiscite/plebiscite/core/Constraint$Kind")) [] (⟨0, 0, 0, 0⟩ : Room) #[(.int x1)] h0 [] (fun v h => v = some (.ref gE)) := by
  refine CtrN.intro (L0 := #[.val (.int x1), .unset]) (plainFor_of_name pn0) O0 (fun m => by first | rfl | (simp [entryFrame, mkF, argsToLocals, Value.category]; done)) ?_
  intro p e s m below meth c T0 hy hml hret hlk hnm W0
  refine o_iloadN W0 (pc' := 1) (hb hy d7_0) rfl rfl ?_
  refine o_ldcI W0 (w37 hw) (pc' := 3) (hb hy d7_1) rfl ?_
  refine o_iand W0 (v := (x1 &&& (2147483647 : Int32))) (pc' := 4) (hb hy d7_3) rfl rfl ?_
  refine o_iconst W0 (v := 3) (pc' := 5) (hb hy d7_4) rfl rfl ?_
  refine o_irem W0 (v := ((x1 &&& (2147483647 : Int32)) % (3 : Int32))) (pc' := 6) (hb hy d7_5) (by decide) rfl rfl ?_
  refine o_istoreN W0 (L' := #[.val (.int x1), .val (.int ((x1 &&& (2147483647 : Int32)) % (3 : Int32)))]) (pc' := 7) (hb hy d7_6) rfl rfl ?_
  refine o_iloadN W0 (pc' := 8) (hb hy d7_7) rfl rfl ?_
  refine o_ifY W0 (pc' := 15) (hb hy d7_8) (XT.i0_ne_t hc1) (by decide) rfl ?_
  refine o_iloadN W0 (pc' := 16) (hb hy d7_15) rfl rfl ?_
  refine o_iconst W0 (v := 1) (pc' := 17) (hb hy d7_16) rfl rfl ?_
  refine o_icmpN W0 (pc' := 20) (hb hy d7_17) (XT.ii_ne_f hc2) rfl ?_
  refine o_getS W0 (w102 hw) Via.refl (SgE_ENABLES.ext W0.ox) (pc' := 23) (hb hy d7_20) rfl ?_
  intro T3 W3
  exact o_retA W3 hlk (v := (.ref gE)) hret rfl rfl (hb hy d7_23) (by decide) (by decide) rfl
theorem rm28 (l : Launch) (Z : State) (a0 : Array Value) (hw : ∀ d ∈ tables_1, d.before a0 Z = true) (gN gE a1 a2 a3 : Addr) (h0 : Heap) (O0 : Old Z Z.heap.size h0) (SgN_NON_COMMUTING : Sta Z Z.heap "com/example/plebiscite/plebiscite/core/Constraint$Kind" "NON_COMMUTING" "Lcom/example/plebiscite/plebiscite/core/Constraint$Kind;" (.ref gN)) (negEgN : gE ≠ gN) (E_a1 : Exa Z h0 a1 "com/example/plebiscite/plebiscite/core/Constraint") (F_a1_kind : Fld Z h0 a1 "com/example/plebiscite/plebiscite/core/Constraint" "kind" "Lcom/example/plebiscite/plebiscite/core/Constraint$Kind;" .null) (g_a1 : Z.heap.size ≤ a1) (F_a1_first : Fld Z h0 a1 "com/example/plebiscite/plebiscite/core/Constraint" "first" "Ljava/lang/String;" .null) (F_a1_second : Fld Z h0 a1 "com/example/plebiscite/plebiscite/core/Constraint" "second" "Ljava/lang/String;" .null) :
    CtrN l Z (⟨"com/example/plebiscite/plebiscite/core/Constraint", "<init>", "(Lcom/example/plebiscite/plebiscite/core/Constraint$Kind;Ljava/lang/String;Ljava/lang/String;)V"⟩ : MethodName) prog_19_method_1_code 5 none [] (⟨2, 0, 0, 24⟩ : Room) #[(.ref a1), (.ref gE), (.ref a2), (.ref a3)] h0 [a1] (fun v h => Fld Z h a1 "com/example/plebiscite/plebiscite/core/Constraint" "kind" "Lcom/example/plebiscite/plebiscite/core/Constraint$Kind;" (.ref gE) ∧ Fld Z h a1 "com/example/plebiscite/plebiscite/core/Constraint" "first" "Ljava/lang/String;" (.ref a2) ∧ Fld Z h a1 "com/example/plebiscite/plebiscite/core/Constraint" "second" "Ljava/lang/String;" (.ref a3) ∧ v = none) := by
  refine CtrN.intro (L0 := #[.val (.ref a1), .val (.ref gE), .val (.ref a2), .val (.ref a3), .unset]) (plainFor_of_name pn5) O0 (fun m => by first | rfl | (simp [entryFrame, mkF, argsToLocals, Value.category]; done)) ?_
  intro p e s m below meth c T0 hy hml hret hlk hnm W0
  refine o_aloadN W0 (pc' := 1) (hb hy d8_0) rfl rfl rfl ?_
  refine o_special W0 (y := (⟨"java/lang/Record", "<init>", "()V"⟩ : MethodName)) rfl (w44 hw) (w45 hw) (w48 hw) (by decide) (a := a1) (argsL := []) (CtrN.back (Wd := 0) W0 (rm2 l Z a0 hw a1 h0 W0.old ) (w48 hw) (w47 hw) (by decide) (by decide)) (by rw [hml]; rfl) (lenOf pd2 rfl) (S := []) rfl (by exact Nat.le_of_eq rfl) (pc' := 4) (hb hy d8_1) rfl (cells' := 0) (slots' := 0) rfl rfl (by decide) (by decide) (wy := []) (fun _ _ _ q => ⟨q.1, q.2.1⟩) all0 (fun _ _ => trivial) ?_
  intro v1 T1 h1 lo1 W1 K1 q1
  obtain rfl := q1.2.2
  show Gl _ _ _ _ _ _ _ _ []
  refine o_aloadN W1 (pc' := 5) (hb hy d8_4) rfl rfl rfl ?_
  refine o_getS W1 (w50 hw) Via.refl (SgN_NON_COMMUTING.ext W1.ox) (pc' := 8) (hb hy d8_5) rfl ?_
  intro T2 W2
  refine o_acmpY W2 (pc' := 27) (hb hy d8_8) rfl rfl (XT.aa_ne_t (fun q => negEgN (Value.ref.inj q))) (by decide) rfl ?_
  refine o_aloadN W2 (pc' := 28) (hb hy d8_27) rfl rfl rfl ?_
  refine o_aloadN W2 (pc' := 29) (hb hy d8_28) rfl rfl rfl ?_
  have c3 := (E_a1.keep K1)
  have c4 := (F_a1_kind.keep K1 nin0)
  refine o_putF W2 (w79 hw) Via.refl c4 c3 (Or.inr ⟨(w80 hw), rfl, hnm⟩) (w31 hw) (ty := (.object "com/example/plebiscite/plebiscite/core/Constraint$Kind")) (v' := (.ref gE)) (by decide) rfl rfl g_a1 (Or.inl (List.mem_of_getElem? (i := 0) rfl)) (fun _ _ => trivial) (pc' := 32) (hb hy d8_29) rfl ?_
  intro T5 h5 lo5 W5 R5
  have F5 := c4.same R5
  refine o_aloadN W5 (pc' := 33) (hb hy d8_32) rfl rfl rfl ?_
  refine o_aloadN W5 (pc' := 34) (hb hy d8_33) rfl rfl rfl ?_
  have c6 := (c3.wr R5)
  have c7 := ((F_a1_first.keep K1 nin0).other R5 (Or.inr (slot_ne (Or.inr (w82 hw)) (Or.inr (w80 hw)) (by decide) (t := (.object "java/lang/String")) (t' := (.object "com/example/plebiscite/plebiscite/core/Constraint$Kind")) (by decide) (by decide))))
  refine o_putF W5 (w81 hw) Via.refl c7 c6 (Or.inr ⟨(w82 hw), rfl, hnm⟩) (w31 hw) (ty := (.object "java/lang/String")) (v' := (.ref a2)) (by decide) rfl rfl g_a1 (Or.inl (List.mem_of_getElem? (i := 0) rfl)) (fun _ _ => trivial) (pc' := 37) (hb hy d8_34) rfl ?_
  intro T8 h8 lo8 W8 R8
  have F8 := c7.same R8
  refine o_aloadN W8 (pc' := 38) (hb hy d8_37) rfl rfl rfl ?_
  refine o_aloadN W8 (pc' := 39) (hb hy d8_38) rfl rfl rfl ?_
  have c9 := (c6.wr R8)
  have c10 := (((F_a1_second.keep K1 nin0).other R5 (Or.inr (slot_ne (Or.inr (w84 hw)) (Or.inr (w80 hw)) (by decide) (t := (.object "java/lang/String")) (t' := (.object "com/example/plebiscite/plebiscite/core/Constraint$Kind")) (by decide) (by decide)))).other R8 (Or.inr (slot_ne (Or.inr (w84 hw)) (Or.inr (w82 hw)) (by decide) (t := (.object "java/lang/String")) (t' := (.object "java/lang/String")) (by decide) (by decide))))
  refine o_putF W8 (w83 hw) Via.refl c10 c9 (Or.inr ⟨(w84 hw), rfl, hnm⟩) (w31 hw) (ty := (.object "java/lang/String")) (v' := (.ref a3)) (by decide) rfl rfl g_a1 (Or.inl (List.mem_of_getElem? (i := 0) rfl)) (fun _ _ => trivial) (pc' := 42) (hb hy d8_39) rfl ?_
  intro T11 h11 lo11 W11 R11
  have F11 := c10.same R11
  have c12 := ((F5.other R8 (Or.inr (slot_ne (Or.inr (w80 hw)) (Or.inr (w82 hw)) (by decide) (t := (.object "com/example/plebiscite/plebiscite/core/Constraint$Kind")) (t' := (.object "java/lang/String")) (by decide) (by decide)))).other R11 (Or.inr (slot_ne (Or.inr (w80 hw)) (Or.inr (w84 hw)) (by decide) (t := (.object "com/example/plebiscite/plebiscite/core/Constraint$Kind")) (t' := (.object "java/lang/String")) (by decide) (by decide))))
  have c13 := (F8.other R11 (Or.inr (slot_ne (Or.inr (w82 hw)) (Or.inr (w84 hw)) (by decide) (t := (.object "java/lang/String")) (t' := (.object "java/lang/String")) (by decide) (by decide))))
  have c14 := (c9.wr R11)
  exact o_ret0 W11 hlk hret (hb hy d8_42) (by decide) (by decide) ⟨c12, c13, F11, rfl⟩
theorem rm29 (l : Launch) (Z : State) (a0 : Array Value) (hw : ∀ d ∈ tables_1, d.before a0 Z = true) (gA : Addr) (x1 : Int32) (h0 : Heap) (O0 : Old Z Z.heap.size h0) (hc1 : ((x1 &&& (2147483647 : Int32)) % (3 : Int32)) = (0 : Int32)) (SgA_NOT_AFTER : Sta Z Z.heap "com/example/plebiscite/plebiscite/core/Constraint$Kind" "NOT_AFTER" "Lcom/example/plebiscite/plebiscite/core/Constraint$Kind;" (.ref gA)) :
    CtrN l Z (⟨"com/example/plebiscite/plebiscite/core/ConstraintOtherPinLaw", "kindOf", "(I)Lcom/example/plebiscite/plebiscite/core/Constraint$Kind;"⟩ : MethodName) method_2_code 2 (some (.object "com/example/plebiscite/plebiscite/core/Constraint$Kind")) [] (⟨0, 0, 0, 0⟩ : Room) #[(.int x1)] h0 [] (fun v h => v = some (.ref gA)) := by
  refine CtrN.intro (L0 := #[.val (.int x1), .unset]) (plainFor_of_name pn0) O0 (fun m => by first | rfl | (simp [entryFrame, mkF, argsToLocals, Value.category]; done)) ?_
  intro p e s m below meth c T0 hy hml hret hlk hnm W0
  refine o_iloadN W0 (pc' := 1) (hb hy d7_0) rfl rfl ?_
  refine o_ldcI W0 (w37 hw) (pc' := 3) (hb hy d7_1) rfl ?_
  refine o_iand W0 (v := (x1 &&& (2147483647 : Int32))) (pc' := 4) (hb hy d7_3) rfl rfl ?_
  refine o_iconst W0 (v := 3) (pc' := 5) (hb hy d7_4) rfl rfl ?_
  refine o_irem W0 (v := ((x1 &&& (2147483647 : Int32)) % (3 : Int32))) (pc' := 6) (hb hy d7_5) (by decide) rfl rfl ?_
  refine o_istoreN W0 (L' := #[.val (.int x1), .val (.int ((x1 &&& (2147483647 : Int32)) % (3 : Int32)))]) (pc' := 7) (hb hy d7_6) rfl rfl ?_
  refine o_iloadN W0 (pc' := 8) (hb hy d7_7) rfl rfl ?_
  refine o_ifN W0 (pc' := 11) (hb hy d7_8) (XT.i0_ne_f hc1) rfl ?_
  refine o_getS W0 (w100 hw) Via.refl (SgA_NOT_AFTER.ext W0.ox) (pc' := 14) (hb hy d7_11) rfl ?_
  intro T2 W2
  exact o_retA W2 hlk (v := (.ref gA)) hret rfl rfl (hb hy d7_14) (by decide) (by decide) rfl
theorem rm30 (l : Launch) (Z : State) (a0 : Array Value) (hw : ∀ d ∈ tables_1, d.before a0 Z = true) (gN gA a1 a2 a3 : Addr) (h0 : Heap) (O0 : Old Z Z.heap.size h0) (SgN_NON_COMMUTING : Sta Z Z.heap "com/example/plebiscite/plebiscite/core/Constraint$Kind" "NON_COMMUTING" "Lcom/example/plebiscite/plebiscite/core/Constraint$Kind;" (.ref gN)) (negAgN : gA ≠ gN) (E_a1 : Exa Z h0 a1 "com/example/plebiscite/plebiscite/core/Constraint") (F_a1_kind : Fld Z h0 a1 "com/example/plebiscite/plebiscite/core/Constraint" "kind" "Lcom/example/plebiscite/plebiscite/core/Constraint$Kind;" .null) (g_a1 : Z.heap.size ≤ a1) (F_a1_first : Fld Z h0 a1 "com/example/plebiscite/plebiscite/core/Constraint" "first" "Ljava/lang/String;" .null) (F_a1_second : Fld Z h0 a1 "com/example/plebiscite/plebiscite/core/Constraint" "second" "Ljava/lang/String;" .null) :
    CtrN l Z (⟨"com/example/plebiscite/plebiscite/core/Constraint", "<init>", "(Lcom/example/plebiscite/plebiscite/core/Constraint$Kind;Ljava/lang/String;Ljava/lang/String;)V"⟩ : MethodName) prog_19_method_1_code 5 none [] (⟨2, 0, 0, 24⟩ : Room) #[(.ref a1), (.ref gA), (.ref a2), (.ref a3)] h0 [a1] (fun v h => Fld Z h a1 "com/example/plebiscite/plebiscite/core/Constraint" "kind" "Lcom/example/plebiscite/plebiscite/core/Constraint$Kind;" (.ref gA) ∧ Fld Z h a1 "com/example/plebiscite/plebiscite/core/Constraint" "first" "Ljava/lang/String;" (.ref a2) ∧ Fld Z h a1 "com/example/plebiscite/plebiscite/core/Constraint" "second" "Ljava/lang/String;" (.ref a3) ∧ v = none) := by
  refine CtrN.intro (L0 := #[.val (.ref a1), .val (.ref gA), .val (.ref a2), .val (.ref a3), .unset]) (plainFor_of_name pn5) O0 (fun m => by first | rfl | (simp [entryFrame, mkF, argsToLocals, Value.category]; done)) ?_
  intro p e s m below meth c T0 hy hml hret hlk hnm W0
  refine o_aloadN W0 (pc' := 1) (hb hy d8_0) rfl rfl rfl ?_
  refine o_special W0 (y := (⟨"java/lang/Record", "<init>", "()V"⟩ : MethodName)) rfl (w44 hw) (w45 hw) (w48 hw) (by decide) (a := a1) (argsL := []) (CtrN.back (Wd := 0) W0 (rm2 l Z a0 hw a1 h0 W0.old ) (w48 hw) (w47 hw) (by decide) (by decide)) (by rw [hml]; rfl) (lenOf pd2 rfl) (S := []) rfl (by exact Nat.le_of_eq rfl) (pc' := 4) (hb hy d8_1) rfl (cells' := 0) (slots' := 0) rfl rfl (by decide) (by decide) (wy := []) (fun _ _ _ q => ⟨q.1, q.2.1⟩) all0 (fun _ _ => trivial) ?_
  intro v1 T1 h1 lo1 W1 K1 q1
  obtain rfl := q1.2.2
  show Gl _ _ _ _ _ _ _ _ []
  refine o_aloadN W1 (pc' := 5) (hb hy d8_4) rfl rfl rfl ?_
  refine o_getS W1 (w50 hw) Via.refl (SgN_NON_COMMUTING.ext W1.ox) (pc' := 8) (hb hy d8_5) rfl ?_
  intro T2 W2
  refine o_acmpY W2 (pc' := 27) (hb hy d8_8) rfl rfl (XT.aa_ne_t (fun q => negAgN (Value.ref.inj q))) (by decide) rfl ?_
  refine o_aloadN W2 (pc' := 28) (hb hy d8_27) rfl rfl rfl ?_
  refine o_aloadN W2 (pc' := 29) (hb hy d8_28) rfl rfl rfl ?_
  have c3 := (E_a1.keep K1)
  have c4 := (F_a1_kind.keep K1 nin0)
  refine o_putF W2 (w79 hw) Via.refl c4 c3 (Or.inr ⟨(w80 hw), rfl, hnm⟩) (w31 hw) (ty := (.object "com/example/plebiscite/plebiscite/core/Constraint$Kind")) (v' := (.ref gA)) (by decide) rfl rfl g_a1 (Or.inl (List.mem_of_getElem? (i := 0) rfl)) (fun _ _ => trivial) (pc' := 32) (hb hy d8_29) rfl ?_
  intro T5 h5 lo5 W5 R5
  have F5 := c4.same R5
  refine o_aloadN W5 (pc' := 33) (hb hy d8_32) rfl rfl rfl ?_
  refine o_aloadN W5 (pc' := 34) (hb hy d8_33) rfl rfl rfl ?_
  have c6 := (c3.wr R5)
  have c7 := ((F_a1_first.keep K1 nin0).other R5 (Or.inr (slot_ne (Or.inr (w82 hw)) (Or.inr (w80 hw)) (by decide) (t := (.object "java/lang/String")) (t' := (.object "com/example/plebiscite/plebiscite/core/Constraint$Kind")) (by decide) (by decide))))
  refine o_putF W5 (w81 hw) Via.refl c7 c6 (Or.inr ⟨(w82 hw), rfl, hnm⟩) (w31 hw) (ty := (.object "java/lang/String")) (v' := (.ref a2)) (by decide) rfl rfl g_a1 (Or.inl (List.mem_of_getElem? (i := 0) rfl)) (fun _ _ => trivial) (pc' := 37) (hb hy d8_34) rfl ?_
  intro T8 h8 lo8 W8 R8
  have F8 := c7.same R8
  refine o_aloadN W8 (pc' := 38) (hb hy d8_37) rfl rfl rfl ?_
  refine o_aloadN W8 (pc' := 39) (hb hy d8_38) rfl rfl rfl ?_
  have c9 := (c6.wr R8)
  have c10 := (((F_a1_second.keep K1 nin0).other R5 (Or.inr (slot_ne (Or.inr (w84 hw)) (Or.inr (w80 hw)) (by decide) (t := (.object "java/lang/String")) (t' := (.object "com/example/plebiscite/plebiscite/core/Constraint$Kind")) (by decide) (by decide)))).other R8 (Or.inr (slot_ne (Or.inr (w84 hw)) (Or.inr (w82 hw)) (by decide) (t := (.object "java/lang/String")) (t' := (.object "java/lang/String")) (by decide) (by decide))))
  refine o_putF W8 (w83 hw) Via.refl c10 c9 (Or.inr ⟨(w84 hw), rfl, hnm⟩) (w31 hw) (ty := (.object "java/lang/String")) (v' := (.ref a3)) (by decide) rfl rfl g_a1 (Or.inl (List.mem_of_getElem? (i := 0) rfl)) (fun _ _ => trivial) (pc' := 42) (hb hy d8_39) rfl ?_
  intro T11 h11 lo11 W11 R11
  have F11 := c10.same R11
  have c12 := ((F5.other R8 (Or.inr (slot_ne (Or.inr (w80 hw)) (Or.inr (w82 hw)) (by decide) (t := (.object "com/example/plebiscite/plebiscite/core/Constraint$Kind")) (t' := (.object "java/lang/String")) (by decide) (by decide)))).other R11 (Or.inr (slot_ne (Or.inr (w80 hw)) (Or.inr (w84 hw)) (by decide) (t := (.object "com/example/plebiscite/plebiscite/core/Constraint$Kind")) (t' := (.object "java/lang/String")) (by decide) (by decide))))
  have c13 := (F8.other R11 (Or.inr (slot_ne (Or.inr (w82 hw)) (Or.inr (w84 hw)) (by decide) (t := (.object "java/lang/String")) (t' := (.object "java/lang/String")) (by decide) (by decide))))
  have c14 := (c9.wr R11)
  exact o_ret0 W11 hlk hret (hb hy d8_42) (by decide) (by decide) ⟨c12, c13, F11, rfl⟩
theorem rm31 (l : Launch) (Z : State) (a0 : Array Value) (hw : ∀ d ∈ tables_1, d.before a0 Z = true) (a1 a2 : Addr) (k_a1 : ClassId) (x1 x2 : Int32) (k_a2 : ClassId) (h0 : Heap) (O0 : Old Z Z.heap.size h0) (V_a1 : Arv Z h0 a1 k_a1 .byte (2 : Int32) [(.int (StrChars.lo8 x1)), (.int (StrChars.lo8 x2))] (.int 0)) (V_a2 : Arv Z h0 a2 k_a2 .byte (2 : Int32) [(.int (StrChars.lo8 x1)), (.int (StrChars.lo8 x2))] (.int 0)) :
    CtrN l Z (⟨"jdk/internal/util/ArraysSupport", "mismatch", "([B[BI)I"⟩ : MethodName) jdk_48_method_13_code 4 (some .int) [] (⟨0, 0, 0, 0⟩ : Room) #[(.ref a1), (.ref a2), (.int 2)] h0 [] (fun v h => v = some (.int (-1 : Int32))) := by
  refine CtrN.intro (L0 := #[.val (.ref a1), .val (.ref a2), .val (.int 2), .unset]) (plainFor_of_name pn3) O0 (fun m => by first | rfl | (simp [entryFrame, mkF, argsToLocals, Value.category]; done)) ?_
  intro p e s m below meth c T0 hy hml hret hlk hnm W0
  refine o_iconst W0 (v := 0) (pc' := 1) (hb hy d15_0) rfl rfl ?_
  refine o_istoreN W0 (L' := #[.val (.ref a1), .val (.ref a2), .val (.int 2), .val (.int 0)]) (pc' := 2) (hb hy d15_1) rfl rfl ?_
  refine o_iloadN W0 (pc' := 3) (hb hy d15_2) rfl rfl ?_
  refine o_bipush W0 (v := 7) (pc' := 5) (hb hy d15_3) (by decide) rfl ?_
  refine o_icmpY W0 (pc' := 49) (hb hy d15_5) (XT.ii_le_t (by decide)) (by decide) rfl ?_
  refine o_iloadN W0 (pc' := 50) (hb hy d15_49) rfl rfl ?_
  refine o_iloadN W0 (pc' := 51) (hb hy d15_50) rfl rfl ?_
  refine o_icmpN W0 (pc' := 54) (hb hy d15_51) (XT.ii_ge_f (by decide)) rfl ?_
  refine o_aloadN W0 (pc' := 55) (hb hy d15_54) rfl rfl rfl ?_
  refine o_iloadN W0 (pc' := 56) (hb hy d15_55) rfl rfl ?_
  refine o_baload W0 V_a1 (x := (StrChars.lo8 x1)) (i := 0) (by decide) (by decide) (by decide) rfl (pc' := 57) (hb hy d15_56) rfl ?_
  refine o_aloadN W0 (pc' := 58) (hb hy d15_57) rfl rfl rfl ?_
  refine o_iloadN W0 (pc' := 59) (hb hy d15_58) rfl rfl ?_
  refine o_baload W0 V_a2 (x := (StrChars.lo8 x1)) (i := 0) (by decide) (by decide) (by decide) rfl (pc' := 60) (hb hy d15_59) rfl ?_
  refine o_icmpY W0 (pc' := 65) (hb hy d15_60) (XT.ii_eq_t rfl) (by decide) rfl ?_
  refine o_iinc W0 (v := 1) (L' := #[.val (.ref a1), .val (.ref a2), .val (.int 2), .val (.int 1)]) (pc' := 68) (hb hy d15_65) rfl (by decide) rfl rfl ?_
  refine o_goto W0 (pc' := 49) (hb hy d15_68) (by decide) rfl ?_
  refine o_iloadN W0 (pc' := 50) (hb hy d15_49) rfl rfl ?_
  refine o_iloadN W0 (pc' := 51) (hb hy d15_50) rfl rfl ?_
  refine o_icmpN W0 (pc' := 54) (hb hy d15_51) (XT.ii_ge_f (by decide)) rfl ?_
  refine o_aloadN W0 (pc' := 55) (hb hy d15_54) rfl rfl rfl ?_
  refine o_iloadN W0 (pc' := 56) (hb hy d15_55) rfl rfl ?_
  refine o_baload W0 V_a1 (x := (StrChars.lo8 x2)) (i := 1) (by decide) (by decide) (by decide) rfl (pc' := 57) (hb hy d15_56) rfl ?_
  refine o_aloadN W0 (pc' := 58) (hb hy d15_57) rfl rfl rfl ?_
  refine o_iloadN W0 (pc' := 59) (hb hy d15_58) rfl rfl ?_
  refine o_baload W0 V_a2 (x := (StrChars.lo8 x2)) (i := 1) (by decide) (by decide) (by decide) rfl (pc' := 60) (hb hy d15_59) rfl ?_
  refine o_icmpY W0 (pc' := 65) (hb hy d15_60) (XT.ii_eq_t rfl) (by decide) rfl ?_
  refine o_iinc W0 (v := 2) (L' := #[.val (.ref a1), .val (.ref a2), .val (.int 2), .val (.int 2)]) (pc' := 68) (hb hy d15_65) rfl (by decide) rfl rfl ?_
  refine o_goto W0 (pc' := 49) (hb hy d15_68) (by decide) rfl ?_
  refine o_iloadN W0 (pc' := 50) (hb hy d15_49) rfl rfl ?_
  refine o_iloadN W0 (pc' := 51) (hb hy d15_50) rfl rfl ?_
  refine o_icmpY W0 (pc' := 71) (hb hy d15_51) (XT.ii_ge_t (by decide)) (by decide) rfl ?_
  refine o_iconst W0 (v := (-1 : Int32)) (pc' := 72) (hb hy d15_71) (by decide) rfl ?_
  exact o_retI W0 hlk hret (hb hy d15_72) (by decide) (by decide) rfl
theorem rm32 (l : Launch) (Z : State) (a0 : Array Value) (hw : ∀ d ∈ tables_1, d.before a0 Z = true) (a1 a2 : Addr) (k_a1 : ClassId) (x1 x2 : Int32) (k_a2 : ClassId) (h0 : Heap) (O0 : Old Z Z.heap.size h0) (V_a1 : Arv Z h0 a1 k_a1 .byte (2 : Int32) [(.int (StrChars.lo8 x1)), (.int (StrChars.lo8 x2))] (.int 0)) (V_a2 : Arv Z h0 a2 k_a2 .byte (2 : Int32) [(.int (StrChars.lo8 x1)), (.int (StrChars.lo8 x2))] (.int 0)) :
    CtrN l Z (⟨"java/lang/StringLatin1", "compareTo", "([B[BII)I"⟩ : MethodName) jdk_43_method_15_code 6 (some .int) [] (⟨1, 0, 0, 15⟩ : Room) #[(.ref a1), (.ref a2), (.int 2), (.int 2)] h0 [] (fun v h => v = some (.int 0)) := by
  refine CtrN.intro (L0 := #[.val (.ref a1), .val (.ref a2), .val (.int 2), .val (.int 2), .unset, .unset]) (plainFor_of_name pn4) O0 (fun m => by first | rfl | (simp [entryFrame, mkF, argsToLocals, Value.category]; done)) ?_
  intro p e s m below meth c T0 hy hml hret hlk hnm W0
  refine o_iloadN W0 (pc' := 1) (hb hy d13_0) rfl rfl ?_
  refine o_iloadN W0 (pc' := 2) (hb hy d13_1) rfl rfl ?_
  refine o_static W0 (y := (⟨"java/lang/Math", "min", "(II)I"⟩ : MethodName)) (w68 hw) (w69 hw) (w70 hw) (w71 hw) (by decide) (argsL := [(.int 2), (.int 2)]) (CtrN.back (Wd := 0) W0 (rm4 l Z a0 hw  h0 W0.old ) (w71 hw) (w70 hw) (by decide) (by decide)) (by rw [hml]; rfl) (lenOf pd4 rfl) (S := []) rfl (by exact Nat.le_of_eq rfl) (pc' := 5) (hb hy d13_2) rfl (cells' := 0) (slots' := 0) rfl rfl (by decide) (by decide) (wy := []) (fun _ _ _ q => ⟨q.1, q.2.1⟩) all0 (fun _ _ => trivial) ?_
  intro v1 T1 h1 lo1 W1 K1 q1
  obtain rfl := q1.2.2
  show Gl _ _ _ _ _ _ _ _ [(.int 2)]
  refine o_istore W1 (L' := #[.val (.ref a1), .val (.ref a2), .val (.int 2), .val (.int 2), .val (.int 2), .unset]) (pc' := 7) (hb hy d13_5) rfl rfl ?_
  refine o_aloadN W1 (pc' := 8) (hb hy d13_7) rfl rfl rfl ?_
  refine o_aloadN W1 (pc' := 9) (hb hy d13_8) rfl rfl rfl ?_
  refine o_iload W1 (pc' := 11) (hb hy d13_9) rfl rfl ?_
  have c2 := (V_a1.keep K1 nin0)
  have c3 := (V_a2.keep K1 nin0)
  refine o_static W1 (y := (⟨"jdk/internal/util/ArraysSupport", "mismatch", "([B[BI)I"⟩ : MethodName)) (w72 hw) (w73 hw) (w74 hw) (w75 hw) (by decide) (argsL := [(.ref a1), (.ref a2), (.int 2)]) (CtrN.back (Wd := 0) W1 (rm31 l Z a0 hw a1 a2 k_a1 x1 x2 k_a2 h1 W1.old c2 c3) (w75 hw) (w74 hw) (by decide) (by decide)) (by rw [hml]; rfl) (lenOf pd5 rfl) (S := []) rfl (by exact Nat.le_of_eq rfl) (pc' := 14) (hb hy d13_11) rfl (cells' := 0) (slots' := 0) rfl rfl (by decide) (by decide) (wy := []) (fun _ _ _ q => ⟨q.1, q.2.1⟩) all0 (fun _ _ => trivial) ?_
  intro v4 T4 h4 lo4 W4 K4 q4
  obtain rfl := q4.2.2
  show Gl _ _ _ _ _ _ _ _ [(.int (-1 : Int32))]
  refine o_istore W4 (L' := #[.val (.ref a1), .val (.ref a2), .val (.int 2), .val (.int 2), .val (.int 2), .val (.int (-1 : Int32))]) (pc' := 16) (hb hy d13_14) rfl rfl ?_
  refine o_iload W4 (pc' := 18) (hb hy d13_16) rfl rfl ?_
  refine o_ifN W4 (pc' := 21) (hb hy d13_18) (XT.i0_ge_f (by decide)) rfl ?_
  refine o_iloadN W4 (pc' := 22) (hb hy d13_21) rfl rfl ?_
  refine o_iloadN W4 (pc' := 23) (hb hy d13_22) rfl rfl ?_
  refine o_isub W4 (v := 0) (pc' := 24) (hb hy d13_23) (by decide) rfl ?_
  refine o_goto W4 (pc' := 40) (hb hy d13_24) (by decide) rfl ?_
  exact o_retI W4 hlk hret (hb hy d13_40) (by decide) (by decide) rfl
theorem rm33 (l : Launch) (Z : State) (a0 : Array Value) (hw : ∀ d ∈ tables_1, d.before a0 Z = true) (a1 a2 : Addr) (k_a1 : ClassId) (x1 x2 : Int32) (k_a2 : ClassId) (h0 : Heap) (O0 : Old Z Z.heap.size h0) (V_a1 : Arv Z h0 a1 k_a1 .byte (2 : Int32) [(.int (StrChars.lo8 x1)), (.int (StrChars.lo8 x2))] (.int 0)) (V_a2 : Arv Z h0 a2 k_a2 .byte (2 : Int32) [(.int (StrChars.lo8 x1)), (.int (StrChars.lo8 x2))] (.int 0)) :
    CtrN l Z (⟨"java/lang/StringLatin1", "compareTo", "([B[B)I"⟩ : MethodName) jdk_43_method_14_code 4 (some .int) [] (⟨2, 0, 0, 32⟩ : Room) #[(.ref a1), (.ref a2)] h0 [] (fun v h => v = some (.int 0)) := by
  refine CtrN.intro (L0 := #[.val (.ref a1), .val (.ref a2), .unset, .unset]) (plainFor_of_name pn4) O0 (fun m => by first | rfl | (simp [entryFrame, mkF, argsToLocals, Value.category]; done)) ?_
  intro p e s m below meth c T0 hy hml hret hlk hnm W0
  refine o_aloadN W0 (pc' := 1) (hb hy d12_0) rfl rfl rfl ?_
  refine o_len W0 V_a1 (pc' := 2) (hb hy d12_1) rfl ?_
  refine o_istoreN W0 (L' := #[.val (.ref a1), .val (.ref a2), .val (.int 2), .unset]) (pc' := 3) (hb hy d12_2) rfl rfl ?_
  refine o_aloadN W0 (pc' := 4) (hb hy d12_3) rfl rfl rfl ?_
  refine o_len W0 V_a2 (pc' := 5) (hb hy d12_4) rfl ?_
  refine o_istoreN W0 (L' := #[.val (.ref a1), .val (.ref a2), .val (.int 2), .val (.int 2)]) (pc' := 6) (hb hy d12_5) rfl rfl ?_
  refine o_aloadN W0 (pc' := 7) (hb hy d12_6) rfl rfl rfl ?_
  refine o_aloadN W0 (pc' := 8) (hb hy d12_7) rfl rfl rfl ?_
  refine o_iloadN W0 (pc' := 9) (hb hy d12_8) rfl rfl ?_
  refine o_iloadN W0 (pc' := 10) (hb hy d12_9) rfl rfl ?_
  refine o_static W0 (y := (⟨"java/lang/StringLatin1", "compareTo", "([B[BII)I"⟩ : MethodName)) (w65 hw) (w66 hw) (w63 hw) (w67 hw) (by decide) (argsL := [(.ref a1), (.ref a2), (.int 2), (.int 2)]) (CtrN.back (Wd := 0) W0 (rm32 l Z a0 hw a1 a2 k_a1 x1 x2 k_a2 h0 W0.old V_a1 V_a2) (w67 hw) (w63 hw) (by decide) (by decide)) (by rw [hml]; rfl) (lenOf pd6 rfl) (S := []) rfl (by exact Nat.le_of_eq rfl) (pc' := 13) (hb hy d12_10) rfl (cells' := 0) (slots' := 0) rfl rfl (by decide) (by decide) (wy := []) (fun _ _ _ q => ⟨q.1, q.2.1⟩) all0 (fun _ _ => trivial) ?_
  intro v1 T1 h1 lo1 W1 K1 q1
  obtain rfl := q1.2.2
  show Gl _ _ _ _ _ _ _ _ [(.int 0)]
  exact o_retI W1 hlk hret (hb hy d12_13) (by decide) (by decide) rfl
theorem rm34 (l : Launch) (Z : State) (a0 : Array Value) (hw : ∀ d ∈ tables_1, d.before a0 Z = true) (gCS : Int32) (a1 a2 a3 a4 : Addr) (k_a3 : ClassId) (x1 x2 : Int32) (k_a4 : ClassId) (h0 : Heap) (O0 : Old Z Z.heap.size h0) (F_a1_value : Fld Z h0 a1 "java/lang/String" "value" "[B" (.ref a3)) (F_a2_value : Fld Z h0 a2 "java/lang/String" "value" "[B" (.ref a4)) (E_a1 : Exa Z h0 a1 "java/lang/String") (SgCS : Sta Z Z.heap "java/lang/String" "COMPACT_STRINGS" "Z" (.int gCS)) (NgCS : ¬ (gCS = (0 : Int32))) (F_a1_coder : Fld Z h0 a1 "java/lang/String" "coder" "B" (.int 0)) (E_a2 : Exa Z h0 a2 "java/lang/String") (F_a2_coder : Fld Z h0 a2 "java/lang/String" "coder" "B" (.int 0)) (V_a3 : Arv Z h0 a3 k_a3 .byte (2 : Int32) [(.int (StrChars.lo8 x1)), (.int (StrChars.lo8 x2))] (.int 0)) (V_a4 : Arv Z h0 a4 k_a4 .byte (2 : Int32) [(.int (StrChars.lo8 x1)), (.int (StrChars.lo8 x2))] (.int 0)) :
    CtrN l Z (⟨"java/lang/String", "compareTo", "(Ljava/lang/String;)I"⟩ : MethodName) jdk_42_method_71_code 5 (some .int) [] (⟨3, 0, 0, 47⟩ : Room) #[(.ref a1), (.ref a2)] h0 [] (fun v h => v = some (.int 0)) := by
  refine CtrN.intro (L0 := #[.val (.ref a1), .val (.ref a2), .unset, .unset, .unset]) (plainFor_of_name pn2) O0 (fun m => by first | rfl | (simp [entryFrame, mkF, argsToLocals, Value.category]; done)) ?_
  intro p e s m below meth c T0 hy hml hret hlk hnm W0
  refine o_aloadN W0 (pc' := 1) (hb hy d10_0) rfl rfl rfl ?_
  refine o_getF W0 (w28 hw) Via.refl F_a1_value (pc' := 4) (hb hy d10_1) rfl ?_
  intro T1 W1
  refine o_astoreN W1 (L' := #[.val (.ref a1), .val (.ref a2), .val (.ref a3), .unset, .unset]) (pc' := 5) (hb hy d10_4) rfl rfl rfl ?_
  refine o_aloadN W1 (pc' := 6) (hb hy d10_5) rfl rfl rfl ?_
  refine o_getF W1 (w28 hw) Via.refl F_a2_value (pc' := 9) (hb hy d10_6) rfl ?_
  intro T2 W2
  refine o_astoreN W2 (L' := #[.val (.ref a1), .val (.ref a2), .val (.ref a3), .val (.ref a4), .unset]) (pc' := 10) (hb hy d10_9) rfl rfl rfl ?_
  refine o_aloadN W2 (pc' := 11) (hb hy d10_10) rfl rfl rfl ?_
  refine o_virtual W2 (y := (⟨"java/lang/String", "coder", "()B"⟩ : MethodName)) (z := (⟨"java/lang/String", "coder", "()B"⟩ : MethodName)) (w56 hw) (w57 hw) (o_nf W2 rfl (w59 hw)) (w59 hw) (w58 hw) (by decide) E_a1 (argsL := []) (CtrN.back (Wd := 0) W2 (rm3 l Z a0 hw gCS a1 h0 W2.old SgCS NgCS F_a1_coder) (w60 hw) (w3 hw) (by decide) (by decide)) (by rw [hml]; rfl) (lenOf pd3 rfl) (S := []) rfl (by exact Nat.le_of_eq rfl) (pc' := 14) (hb hy d10_11) rfl (cells' := 0) (slots' := 0) rfl rfl (by decide) (by decide) (wy := []) (fun _ _ _ q => ⟨q.1, q.2.1⟩) all0 (fun _ _ => trivial) ?_
  intro v3 T3 h3 lo3 W3 K3 q3
  obtain rfl := q3.2.2
  show Gl _ _ _ _ _ _ _ _ [(.int 0)]
  refine o_istore W3 (L' := #[.val (.ref a1), .val (.ref a2), .val (.ref a3), .val (.ref a4), .val (.int 0)]) (pc' := 16) (hb hy d10_14) rfl rfl ?_
  refine o_iload W3 (pc' := 18) (hb hy d10_16) rfl rfl ?_
  refine o_aloadN W3 (pc' := 19) (hb hy d10_18) rfl rfl rfl ?_
  have c4 := (E_a2.keep K3)
  have c5 := (F_a2_coder.keep K3 nin0)
  refine o_virtual W3 (y := (⟨"java/lang/String", "coder", "()B"⟩ : MethodName)) (z := (⟨"java/lang/String", "coder", "()B"⟩ : MethodName)) (w56 hw) (w57 hw) (o_nf W3 rfl (w59 hw)) (w59 hw) (w58 hw) (by decide) c4 (argsL := []) (CtrN.back (Wd := 1) W3 (rm3 l Z a0 hw gCS a2 h3 W3.old SgCS NgCS c5) (w60 hw) (w3 hw) (by decide) (by decide)) (by rw [hml]; rfl) (lenOf pd3 rfl) (S := [(.int 0)]) rfl (by exact Nat.le_of_eq rfl) (pc' := 22) (hb hy d10_19) rfl (cells' := 0) (slots' := 0) rfl rfl (by decide) (by decide) (wy := []) (fun _ _ _ q => ⟨q.1, q.2.1⟩) all0 (fun _ _ => trivial) ?_
  intro v6 T6 h6 lo6 W6 K6 q6
  obtain rfl := q6.2.2
  show Gl _ _ _ _ _ _ _ _ [(.int 0), (.int 0)]
  refine o_icmpN W6 (pc' := 25) (hb hy d10_22) (XT.ii_ne_f (by decide)) rfl ?_
  refine o_iload W6 (pc' := 27) (hb hy d10_25) rfl rfl ?_
  refine o_ifN W6 (pc' := 30) (hb hy d10_27) (XT.i0_ne_f (by decide)) rfl ?_
  refine o_aloadN W6 (pc' := 31) (hb hy d10_30) rfl rfl rfl ?_
  refine o_aloadN W6 (pc' := 32) (hb hy d10_31) rfl rfl rfl ?_
  have c7 := ((V_a3.keep K3 nin0).keep K6 nin0)
  have c8 := ((V_a4.keep K3 nin0).keep K6 nin0)
  refine o_static W6 (y := (⟨"java/lang/StringLatin1", "compareTo", "([B[B)I"⟩ : MethodName)) (w61 hw) (w62 hw) (w63 hw) (w64 hw) (by decide) (argsL := [(.ref a3), (.ref a4)]) (CtrN.back (Wd := 0) W6 (rm33 l Z a0 hw a3 a4 k_a3 x1 x2 k_a4 h6 W6.old c7 c8) (w64 hw) (w63 hw) (by decide) (by decide)) (by rw [hml]; rfl) (lenOf pd7 rfl) (S := []) rfl (by exact Nat.le_of_eq rfl) (pc' := 35) (hb hy d10_32) rfl (cells' := 0) (slots' := 0) rfl rfl (by decide) (by decide) (wy := []) (fun _ _ _ q => ⟨q.1, q.2.1⟩) all0 (fun _ _ => trivial) ?_
  intro v9 T9 h9 lo9 W9 K9 q9
  obtain rfl := q9.2.2
  show Gl _ _ _ _ _ _ _ _ [(.int 0)]
  refine o_goto W9 (pc' := 43) (hb hy d10_35) (by decide) rfl ?_
  exact o_retI W9 hlk hret (hb hy d10_43) (by decide) (by decide) rfl
theorem rm35 (l : Launch) (Z : State) (a0 : Array Value) (hw : ∀ d ∈ tables_1, d.before a0 Z = true) (gCS : Int32) (gN a1 a2 a3 a4 a5 : Addr) (k_a4 : ClassId) (x1 x2 : Int32) (k_a5 : ClassId) (h0 : Heap) (O0 : Old Z Z.heap.size h0) (SgN_NON_COMMUTING : Sta Z Z.heap "com/example/plebiscite/plebiscite/core/Constraint$Kind" "NON_COMMUTING" "Lcom/example/plebiscite/plebiscite/core/Constraint$Kind;" (.ref gN)) (E_a2 : Exa Z h0 a2 "java/lang/String") (F_a2_value : Fld Z h0 a2 "java/lang/String" "value" "[B" (.ref a4)) (F_a3_value : Fld Z h0 a3 "java/lang/String" "value" "[B" (.ref a5)) (SgCS : Sta Z Z.heap "java/lang/String" "COMPACT_STRINGS" "Z" (.int gCS)) (NgCS : ¬ (gCS = (0 : Int32))) (F_a2_coder : Fld Z h0 a2 "java/lang/String" "coder" "B" (.int 0)) (E_a3 : Exa Z h0 a3 "java/lang/String") (F_a3_coder : Fld Z h0 a3 "java/lang/String" "coder" "B" (.int 0)) (V_a4 : Arv Z h0 a4 k_a4 .byte (2 : Int32) [(.int (StrChars.lo8 x1)), (.int (StrChars.lo8 x2))] (.int 0)) (V_a5 : Arv Z h0 a5 k_a5 .byte (2 : Int32) [(.int (StrChars.lo8 x1)), (.int (StrChars.lo8 x2))] (.int 0)) (E_a1 : Exa Z h0 a1 "com/example/plebiscite/plebiscite/core/Constraint") (F_a1_kind : Fld Z h0 a1 "com/example/plebiscite/plebiscite/core/Constraint" "kind" "Lcom/example/plebiscite/plebiscite/core/Constraint$Kind;" .null) (g_a1 : Z.heap.size ≤ a1) (F_a1_first : Fld Z h0 a1 "com/example/plebiscite/plebiscite/core/Constraint" "first" "Ljava/lang/String;" .null) (F_a1_second : Fld Z h0 a1 "com/example/plebiscite/plebiscite/core/Constraint" "second" "Ljava/lang/String;" .null) :
    CtrN l Z (⟨"com/example/plebiscite/plebiscite/core/Constraint", "<init>", "(Lcom/example/plebiscite/plebiscite/core/Constraint$Kind;Ljava/lang/String;Ljava/lang/String;)V"⟩ : MethodName) prog_19_method_1_code 5 none [] (⟨4, 0, 0, 63⟩ : Room) #[(.ref a1), (.ref gN), (.ref a2), (.ref a3)] h0 [a1] (fun v h => Fld Z h a1 "com/example/plebiscite/plebiscite/core/Constraint" "kind" "Lcom/example/plebiscite/plebiscite/core/Constraint$Kind;" (.ref gN) ∧ Fld Z h a1 "com/example/plebiscite/plebiscite/core/Constraint" "first" "Ljava/lang/String;" (.ref a2) ∧ Fld Z h a1 "com/example/plebiscite/plebiscite/core/Constraint" "second" "Ljava/lang/String;" (.ref a3) ∧ v = none) := by
  refine CtrN.intro (L0 := #[.val (.ref a1), .val (.ref gN), .val (.ref a2), .val (.ref a3), .unset]) (plainFor_of_name pn5) O0 (fun m => by first | rfl | (simp [entryFrame, mkF, argsToLocals, Value.category]; done)) ?_
  intro p e s m below meth c T0 hy hml hret hlk hnm W0
  refine o_aloadN W0 (pc' := 1) (hb hy d8_0) rfl rfl rfl ?_
  refine o_special W0 (y := (⟨"java/lang/Record", "<init>", "()V"⟩ : MethodName)) rfl (w44 hw) (w45 hw) (w48 hw) (by decide) (a := a1) (argsL := []) (CtrN.back (Wd := 0) W0 (rm2 l Z a0 hw a1 h0 W0.old ) (w48 hw) (w47 hw) (by decide) (by decide)) (by rw [hml]; rfl) (lenOf pd2 rfl) (S := []) rfl (by exact Nat.le_of_eq rfl) (pc' := 4) (hb hy d8_1) rfl (cells' := 0) (slots' := 0) rfl rfl (by decide) (by decide) (wy := []) (fun _ _ _ q => ⟨q.1, q.2.1⟩) all0 (fun _ _ => trivial) ?_
  intro v1 T1 h1 lo1 W1 K1 q1
  obtain rfl := q1.2.2
  show Gl _ _ _ _ _ _ _ _ []
  refine o_aloadN W1 (pc' := 5) (hb hy d8_4) rfl rfl rfl ?_
  refine o_getS W1 (w50 hw) Via.refl (SgN_NON_COMMUTING.ext W1.ox) (pc' := 8) (hb hy d8_5) rfl ?_
  intro T2 W2
  refine o_acmpN W2 (pc' := 11) (hb hy d8_8) rfl rfl (XT.aa_ne_f rfl) rfl ?_
  refine o_aloadN W2 (pc' := 12) (hb hy d8_11) rfl rfl rfl ?_
  refine o_aloadN W2 (pc' := 13) (hb hy d8_12) rfl rfl rfl ?_
  have c3 := (E_a2.keep K1)
  have c4 := (F_a2_value.keep K1 nin0)
  have c5 := (F_a3_value.keep K1 nin0)
  have c6 := (F_a2_coder.keep K1 nin0)
  have c7 := (E_a3.keep K1)
  have c8 := (F_a3_coder.keep K1 nin0)
  have c9 := (V_a4.keep K1 nin0)
  have c10 := (V_a5.keep K1 nin0)
  refine o_virtual W2 (y := (⟨"java/lang/String", "compareTo", "(Ljava/lang/String;)I"⟩ : MethodName)) (z := (⟨"java/lang/String", "compareTo", "(Ljava/lang/String;)I"⟩ : MethodName)) (w51 hw) (w52 hw) (o_nf W2 rfl (w54 hw)) (w54 hw) (w53 hw) (by decide) c3 (argsL := [(.ref a3)]) (CtrN.back (Wd := 0) W2 (rm34 l Z a0 hw gCS a2 a3 a4 a5 k_a4 x1 x2 k_a5 h1 W2.old c4 c5 c3 SgCS NgCS c6 c7 c8 c9 c10) (w55 hw) (w3 hw) (by decide) (by decide)) (by rw [hml]; rfl) (lenOf pd8 rfl) (S := []) rfl (by exact Nat.le_of_eq rfl) (pc' := 16) (hb hy d8_13) rfl (cells' := 0) (slots' := 0) rfl rfl (by decide) (by decide) (wy := []) (fun _ _ _ q => ⟨q.1, q.2.1⟩) all0 (fun _ _ => trivial) ?_
  intro v11 T11 h11 lo11 W11 K11 q11
  obtain rfl := q11.2.2
  show Gl _ _ _ _ _ _ _ _ [(.int 0)]
  refine o_ifY W11 (pc' := 27) (hb hy d8_16) (XT.i0_le_t (by decide)) (by decide) rfl ?_
  refine o_aloadN W11 (pc' := 28) (hb hy d8_27) rfl rfl rfl ?_
  refine o_aloadN W11 (pc' := 29) (hb hy d8_28) rfl rfl rfl ?_
  have c12 := ((E_a1.keep K1).keep K11)
  have c13 := ((F_a1_kind.keep K1 nin0).keep K11 nin0)
  refine o_putF W11 (w79 hw) Via.refl c13 c12 (Or.inr ⟨(w80 hw), rfl, hnm⟩) (w31 hw) (ty := (.object "com/example/plebiscite/plebiscite/core/Constraint$Kind")) (v' := (.ref gN)) (by decide) rfl rfl g_a1 (Or.inl (List.mem_of_getElem? (i := 0) rfl)) (fun _ _ => trivial) (pc' := 32) (hb hy d8_29) rfl ?_
  intro T14 h14 lo14 W14 R14
  have F14 := c13.same R14
  refine o_aloadN W14 (pc' := 33) (hb hy d8_32) rfl rfl rfl ?_
  refine o_aloadN W14 (pc' := 34) (hb hy d8_33) rfl rfl rfl ?_
  have c15 := (c12.wr R14)
  have c16 := (((F_a1_first.keep K1 nin0).keep K11 nin0).other R14 (Or.inr (slot_ne (Or.inr (w82 hw)) (Or.inr (w80 hw)) (by decide) (t := (.object "java/lang/String")) (t' := (.object "com/example/plebiscite/plebiscite/core/Constraint$Kind")) (by decide) (by decide))))
  refine o_putF W14 (w81 hw) Via.refl c16 c15 (Or.inr ⟨(w82 hw), rfl, hnm⟩) (w31 hw) (ty := (.object "java/lang/String")) (v' := (.ref a2)) (by decide) rfl rfl g_a1 (Or.inl (List.mem_of_getElem? (i := 0) rfl)) (fun _ _ => trivial) (pc' := 37) (hb hy d8_34) rfl ?_
  intro T17 h17 lo17 W17 R17
  have F17 := c16.same R17
  refine o_aloadN W17 (pc' := 38) (hb hy d8_37) rfl rfl rfl ?_
  refine o_aloadN W17 (pc' := 39) (hb hy d8_38) rfl rfl rfl ?_
  have c18 := (c15.wr R17)
  have c19 := ((((F_a1_second.keep K1 nin0).keep K11 nin0).other R14 (Or.inr (slot_ne (Or.inr (w84 hw)) (Or.inr (w80 hw)) (by decide) (t := (.object "java/lang/String")) (t' := (.object "com/example/plebiscite/plebiscite/core/Constraint$Kind")) (by decide) (by decide)))).other R17 (Or.inr (slot_ne (Or.inr (w84 hw)) (Or.inr (w82 hw)) (by decide) (t := (.object "java/lang/String")) (t' := (.object "java/lang/String")) (by decide) (by decide))))
  refine o_putF W17 (w83 hw) Via.refl c19 c18 (Or.inr ⟨(w84 hw), rfl, hnm⟩) (w31 hw) (ty := (.object "java/lang/String")) (v' := (.ref a3)) (by decide) rfl rfl g_a1 (Or.inl (List.mem_of_getElem? (i := 0) rfl)) (fun _ _ => trivial) (pc' := 42) (hb hy d8_39) rfl ?_
  intro T20 h20 lo20 W20 R20
  have F20 := c19.same R20
  have c21 := ((F14.other R17 (Or.inr (slot_ne (Or.inr (w80 hw)) (Or.inr (w82 hw)) (by decide) (t := (.object "com/example/plebiscite/plebiscite/core/Constraint$Kind")) (t' := (.object "java/lang/String")) (by decide) (by decide)))).other R20 (Or.inr (slot_ne (Or.inr (w80 hw)) (Or.inr (w84 hw)) (by decide) (t := (.object "com/example/plebiscite/plebiscite/core/Constraint$Kind")) (t' := (.object "java/lang/String")) (by decide) (by decide))))
  have c22 := (F17.other R20 (Or.inr (slot_ne (Or.inr (w82 hw)) (Or.inr (w84 hw)) (by decide) (t := (.object "java/lang/String")) (t' := (.object "java/lang/String")) (by decide) (by decide))))
  have c23 := (c18.wr R20)
  exact o_ret0 W20 hlk hret (hb hy d8_42) (by decide) (by decide) ⟨c21, c22, F20, rfl⟩
theorem rm_law (l : Launch) (Z : State) (a0 : Array Value) (hw : ∀ d ∈ tables_1, d.before a0 Z = true) (gCS : Int32) (gN gA gE : Addr) (p0 p1 p2 : Int32) (h0 : Heap) (O0 : Old Z Z.heap.size h0) (SgCS : Sta Z Z.heap "java/lang/String" "COMPACT_STRINGS" "Z" (.int gCS)) (NgCS : ¬ (gCS = (0 : Int32))) (SgN_NON_COMMUTING : Sta Z Z.heap "com/example/plebiscite/plebiscite/core/Constraint$Kind" "NON_COMMUTING" "Lcom/example/plebiscite/plebiscite/core/Constraint$Kind;" (.ref gN)) (SgE_ENABLES : Sta Z Z.heap "com/example/plebiscite/plebiscite/core/Constraint$Kind" "ENABLES" "Lcom/example/plebiscite/plebiscite/core/Constraint$Kind;" (.ref gE)) (negEgN : gE ≠ gN) (SgA_NOT_AFTER : Sta Z Z.heap "com/example/plebiscite/plebiscite/core/Constraint$Kind" "NOT_AFTER" "Lcom/example/plebiscite/plebiscite/core/Constraint$Kind;" (.ref gA)) (negAgN : gA ≠ gN) :
    CtrN l Z x code maxLocals ret tables_1 room_1 #[(.int p0), (.int p1), (.int p2)] h0 [] (fun v _ => v = some (.int 1)) := by
  refine CtrN.intro (L0 := #[.val (.int p0), .val (.int p1), .val (.int p2), .unset, .unset, .unset, .unset, .unset, .unset, .unset, .unset, .unset, .unset]) (plainFor_of_name pn0) O0 (fun m => by first | rfl | (simp [entryFrame, mkF, argsToLocals, Value.category, maxLocals]; done)) ?_
  intro p e s m below meth c T0 hy hml hret hlk hnm W0
  refine o_iloadN W0 (pc' := 1) (hb hy at_0) rfl rfl ?_
  refine o_iconst W0 (v := 4) (pc' := 2) (hb hy at_1) rfl rfl ?_
  refine o_iand W0 (v := (p2 &&& (4 : Int32))) (pc' := 3) (hb hy at_2) rfl rfl ?_
  by_cases hf : (p2 &&& (4 : Int32)) = (0 : Int32)
  · refine o_ifY W0 (pc' := 10) (hb hy at_3) (XT.i0_eq_t hf) (by decide) rfl ?_
    refine o_iconst W0 (v := 0) (pc' := 11) (hb hy at_10) rfl rfl ?_
    refine o_istoreN W0 (L' := #[.val (.int p0), .val (.int p1), .val (.int p2), .val (.int 0), .unset, .unset, .unset, .unset, .unset, .unset, .unset, .unset, .unset]) (pc' := 12) (hb hy at_11) rfl rfl ?_
    refine o_iconst W0 (v := 2) (pc' := 13) (hb hy at_12) rfl rfl ?_
    refine o_newP W0 (aty := .char) (w0 hw) (fun _ _ => trivial) (by decide) (cap := 2) (by decide) (by decide) (pc' := 15) (hb hy at_13) rfl (cells' := 1) (slots' := 2) rfl rfl (by decide) (by decide) (vs := [(.int 0), (.int 0)]) (dv := (.int 0)) rfl rfl ?_
    intro b1 T1 h1 k1 W1 E1 ge1 gz1 gb1 V1
    refine o_astore W1 (L' := #[.val (.int p0), .val (.int p1), .val (.int p2), .val (.int 0), .val (.ref b1), .unset, .unset, .unset, .unset, .unset, .unset, .unset, .unset]) (pc' := 17) (hb hy at_15) rfl rfl rfl ?_
    refine o_aload W1 (pc' := 19) (hb hy at_17) rfl rfl rfl ?_
    refine o_iconst W1 (v := 0) (pc' := 20) (hb hy at_19) rfl rfl ?_
    refine o_iloadN W1 (pc' := 21) (hb hy at_20) rfl rfl ?_
    refine o_sipush W1 (v := 255) (pc' := 24) (hb hy at_21) (by decide) rfl ?_
    refine o_iand W1 (v := (p0 &&& (255 : Int32))) (pc' := 25) (hb hy at_24) rfl rfl ?_
    refine o_i2c W1 (v := (p0 &&& (255 : Int32))) (pc' := 26) (hb hy at_25) (own_i2c (own_b255 _)) rfl ?_
    refine o_stC W1 V1 (i := 0) (x' := (p0 &&& (255 : Int32))) (by decide) (by decide) (by decide) (Nat.lt_of_sub_eq_succ rfl) (own_i2c (own_b255 _)) (vs' := [(.int (p0 &&& (255 : Int32))), (.int 0)]) rfl gz1 (Or.inr gb1) (fun _ _ => trivial) (pc' := 27) (hb hy at_26) rfl ?_
    intro T2 h2 lo2 W2 R2 V2
    refine o_aload W2 (pc' := 29) (hb hy at_27) rfl rfl rfl ?_
    refine o_iconst W2 (v := 1) (pc' := 30) (hb hy at_29) rfl rfl ?_
    refine o_iloadN W2 (pc' := 31) (hb hy at_30) rfl rfl ?_
    refine o_bipush W2 (v := 8) (pc' := 33) (hb hy at_31) (by decide) rfl ?_
    refine o_iushr W2 (v := ((p0.toUInt32 >>> ((8 : Int32) &&& 31).toUInt32).toInt32)) (pc' := 34) (hb hy at_33) rfl rfl ?_
    refine o_sipush W2 (v := 255) (pc' := 37) (hb hy at_34) (by decide) rfl ?_
    refine o_iand W2 (v := (((p0.toUInt32 >>> ((8 : Int32) &&& 31).toUInt32).toInt32) &&& (255 : Int32))) (pc' := 38) (hb hy at_37) rfl rfl ?_
    refine o_i2c W2 (v := (((p0.toUInt32 >>> ((8 : Int32) &&& 31).toUInt32).toInt32) &&& (255 : Int32))) (pc' := 39) (hb hy at_38) (own_i2c (own_b255 _)) rfl ?_
    refine o_stC W2 V2 (i := 1) (x' := (((p0.toUInt32 >>> ((8 : Int32) &&& 31).toUInt32).toInt32) &&& (255 : Int32))) (by decide) (by decide) (by decide) (Nat.lt_of_sub_eq_succ rfl) (own_i2c (own_b255 _)) (vs' := [(.int (p0 &&& (255 : Int32))), (.int (((p0.toUInt32 >>> ((8 : Int32) &&& 31).toUInt32).toInt32) &&& (255 : Int32)))]) rfl gz1 (Or.inr gb1) (fun _ _ => trivial) (pc' := 40) (hb hy at_39) rfl ?_
    intro T3 h3 lo3 W3 R3 V3
    refine o_iconst W3 (v := 2) (pc' := 41) (hb hy at_40) rfl rfl ?_
    refine o_newP W3 (aty := .char) (w0 hw) (fun _ _ => trivial) (by decide) (cap := 2) (by decide) (by decide) (pc' := 43) (hb hy at_41) rfl (cells' := 2) (slots' := 4) rfl rfl (by decide) (by decide) (vs := [(.int 0), (.int 0)]) (dv := (.int 0)) rfl rfl ?_
    intro b4 T4 h4 k4 W4 E4 ge4 gz4 gb4 V4
    refine o_astore W4 (L' := #[.val (.int p0), .val (.int p1), .val (.int p2), .val (.int 0), .val (.ref b1), .val (.ref b4), .unset, .unset, .unset, .unset, .unset, .unset, .unset]) (pc' := 45) (hb hy at_43) rfl rfl rfl ?_
    refine o_iloadN W4 (pc' := 46) (hb hy at_45) rfl rfl ?_
    refine o_ifY W4 (pc' := 68) (hb hy at_46) (XT.i0_eq_t (by decide)) (by decide) rfl ?_
    refine o_aload W4 (pc' := 70) (hb hy at_68) rfl rfl rfl ?_
    refine o_iconst W4 (v := 0) (pc' := 71) (hb hy at_70) rfl rfl ?_
    refine o_iloadN W4 (pc' := 72) (hb hy at_71) rfl rfl ?_
    refine o_sipush W4 (v := 255) (pc' := 75) (hb hy at_72) (by decide) rfl ?_
    refine o_iand W4 (v := (p1 &&& (255 : Int32))) (pc' := 76) (hb hy at_75) rfl rfl ?_
    refine o_i2c W4 (v := (p1 &&& (255 : Int32))) (pc' := 77) (hb hy at_76) (own_i2c (own_b255 _)) rfl ?_
    refine o_stC W4 V4 (i := 0) (x' := (p1 &&& (255 : Int32))) (by decide) (by decide) (by decide) (Nat.lt_of_sub_eq_succ rfl) (own_i2c (own_b255 _)) (vs' := [(.int (p1 &&& (255 : Int32))), (.int 0)]) rfl gz4 (Or.inr gb4) (fun _ _ => trivial) (pc' := 78) (hb hy at_77) rfl ?_
    intro T5 h5 lo5 W5 R5 V5
    refine o_aload W5 (pc' := 80) (hb hy at_78) rfl rfl rfl ?_
    refine o_iconst W5 (v := 1) (pc' := 81) (hb hy at_80) rfl rfl ?_
    refine o_iloadN W5 (pc' := 82) (hb hy at_81) rfl rfl ?_
    refine o_bipush W5 (v := 8) (pc' := 84) (hb hy at_82) (by decide) rfl ?_
    refine o_iushr W5 (v := ((p1.toUInt32 >>> ((8 : Int32) &&& 31).toUInt32).toInt32)) (pc' := 85) (hb hy at_84) rfl rfl ?_
    refine o_sipush W5 (v := 255) (pc' := 88) (hb hy at_85) (by decide) rfl ?_
    refine o_iand W5 (v := (((p1.toUInt32 >>> ((8 : Int32) &&& 31).toUInt32).toInt32) &&& (255 : Int32))) (pc' := 89) (hb hy at_88) rfl rfl ?_
    refine o_i2c W5 (v := (((p1.toUInt32 >>> ((8 : Int32) &&& 31).toUInt32).toInt32) &&& (255 : Int32))) (pc' := 90) (hb hy at_89) (own_i2c (own_b255 _)) rfl ?_
    refine o_stC W5 V5 (i := 1) (x' := (((p1.toUInt32 >>> ((8 : Int32) &&& 31).toUInt32).toInt32) &&& (255 : Int32))) (by decide) (by decide) (by decide) (Nat.lt_of_sub_eq_succ rfl) (own_i2c (own_b255 _)) (vs' := [(.int (p1 &&& (255 : Int32))), (.int (((p1.toUInt32 >>> ((8 : Int32) &&& 31).toUInt32).toInt32) &&& (255 : Int32)))]) rfl gz4 (Or.inr gb4) (fun _ _ => trivial) (pc' := 91) (hb hy at_90) rfl ?_
    intro T6 h6 lo6 W6 R6 V6
    refine o_new W6 (w1 hw) (w2 hw) (w3 hw) (fun _ _ => trivial) (pc' := 94) (hb hy at_91) rfl (cells' := 3) (slots' := 8) rfl rfl (by decide) (by decide) ?_
    intro b7 T7 h7 W7 E7 ge7 gz7 gb7 A7 D7
    have Fb7_coder : Fld Z h7 b7 "java/lang/String" "coder" "B" (.int 0) := D7 (Or.inr (w27 hw)) (ty := .byte) (by decide)
    have Fb7_value : Fld Z h7 b7 "java/lang/String" "value" "[B" .null := D7 (Or.inr (w29 hw)) (ty := (.array .byte)) (by decide)
    refine o_dup W7 (pc' := 95) (hb hy at_94) rfl rfl ?_
    refine o_aload W7 (pc' := 97) (hb hy at_95) rfl rfl rfl ?_
    have c8 := ((((V3.ext E4).other R5 (own_ne V3.lt ge4)).other R6 (own_ne V3.lt ge4)).ext E7)
    have ok9 : own_ok [(p0 &&& (255 : Int32)), (((p0.toUInt32 >>> ((8 : Int32) &&& 31).toUInt32).toInt32) &&& (255 : Int32))] := ⟨by simp only [List.mem_cons, List.not_mem_nil, or_false, forall_eq_or_imp, forall_eq, false_imp_iff, implies_true]; exact ⟨(own_b255 _), (own_b255 _)⟩, Nat.le_of_ble_eq_true rfl⟩
    refine o_special W7 (y := (⟨"java/lang/String", "<init>", "([C)V"⟩ : MethodName)) rfl (w4 hw) (w5 hw) (w6 hw) (by decide) (a := b7) (argsL := [(.ref b1)]) (StrChars.Road.backV (W := 1) W7.2.2.2.1 (own_hV hw) (kI := 4) (w2 hw) (cs := [(p0 &&& (255 : Int32)), (((p0.toUInt32 >>> ((8 : Int32) &&& 31).toUInt32).toInt32) &&& (255 : Int32))]) (bs := [((p0 &&& (255 : Int32))).toInt8.toInt32, ((((p0.toUInt32 >>> ((8 : Int32) &&& 31).toUInt32).toInt32) &&& (255 : Int32))).toInt8.toInt32]) (n := 2) (n0 := Z.heap.size) gz7 W7.zs A7 Fb7_value Fb7_coder c8 (SgCS.ext W7.ox) NgCS rfl rfl (by decide) (by decide) ok9.1 rfl (by decide) (by decide)) (by rw [hml]; rfl) (lenOf pd0 rfl) (S := [(.ref b7)]) rfl (by exact Nat.le_of_eq rfl) (pc' := 100) (hb hy at_97) rfl (cells' := 4) (slots' := 10) rfl rfl (by decide) (by decide) (wy := [b7]) (fun _ _ _ q => ⟨q.2.1, q.2.2.1⟩) (allS ⟨gz7, (Or.inr gb7)⟩ all0) (fun _ _ => trivial) ?_
    intro v10 T10 h10 lo10 W10 K10 q10
    obtain ⟨rfl, -, -, X10, Fc10, t10, kb10, gz10, ge10, -, Fv10, A10⟩ := q10
    have B10 : Arv Z h10 t10 kb10 .byte (2 : Int32) [(.int (StrChars.lo8 (p0 &&& (255 : Int32)))), (.int (StrChars.lo8 (((p0.toUInt32 >>> ((8 : Int32) &&& 31).toUInt32).toInt32) &&& (255 : Int32))))] (.int 0) := A10
    show Gl _ _ _ _ _ _ _ _ [(.ref b7)]
    refine o_astore W10 (L' := #[.val (.int p0), .val (.int p1), .val (.int p2), .val (.int 0), .val (.ref b1), .val (.ref b4), .val (.ref b7), .unset, .unset, .unset, .unset, .unset, .unset]) (pc' := 102) (hb hy at_100) rfl rfl rfl ?_
    refine o_new W10 (w1 hw) (w2 hw) (w3 hw) (fun _ _ => trivial) (pc' := 105) (hb hy at_102) rfl (cells' := 5) (slots' := 14) rfl rfl (by decide) (by decide) ?_
    intro b11 T11 h11 W11 E11 ge11 gz11 gb11 A11 D11
    have Fb11_coder : Fld Z h11 b11 "java/lang/String" "coder" "B" (.int 0) := D11 (Or.inr (w27 hw)) (ty := .byte) (by decide)
    have Fb11_value : Fld Z h11 b11 "java/lang/String" "value" "[B" .null := D11 (Or.inr (w29 hw)) (ty := (.array .byte)) (by decide)
    refine o_dup W11 (pc' := 106) (hb hy at_105) rfl rfl ?_
    refine o_aload W11 (pc' := 108) (hb hy at_106) rfl rfl rfl ?_
    have c12 := (((V6.ext E7).keep K10 (ninS (own_ne V6.lt ge7) nin0)).ext E11)
    have ok13 : own_ok [(p1 &&& (255 : Int32)), (((p1.toUInt32 >>> ((8 : Int32) &&& 31).toUInt32).toInt32) &&& (255 : Int32))] := ⟨by simp only [List.mem_cons, List.not_mem_nil, or_false, forall_eq_or_imp, forall_eq, false_imp_iff, implies_true]; exact ⟨(own_b255 _), (own_b255 _)⟩, Nat.le_of_ble_eq_true rfl⟩
    refine o_special W11 (y := (⟨"java/lang/String", "<init>", "([C)V"⟩ : MethodName)) rfl (w4 hw) (w5 hw) (w6 hw) (by decide) (a := b11) (argsL := [(.ref b4)]) (StrChars.Road.backV (W := 1) W11.2.2.2.1 (own_hV hw) (kI := 4) (w2 hw) (cs := [(p1 &&& (255 : Int32)), (((p1.toUInt32 >>> ((8 : Int32) &&& 31).toUInt32).toInt32) &&& (255 : Int32))]) (bs := [((p1 &&& (255 : Int32))).toInt8.toInt32, ((((p1.toUInt32 >>> ((8 : Int32) &&& 31).toUInt32).toInt32) &&& (255 : Int32))).toInt8.toInt32]) (n := 2) (n0 := Z.heap.size) gz11 W11.zs A11 Fb11_value Fb11_coder c12 (SgCS.ext W11.ox) NgCS rfl rfl (by decide) (by decide) ok13.1 rfl (by decide) (by decide)) (by rw [hml]; rfl) (lenOf pd0 rfl) (S := [(.ref b11)]) rfl (by exact Nat.le_of_eq rfl) (pc' := 111) (hb hy at_108) rfl (cells' := 6) (slots' := 16) rfl rfl (by decide) (by decide) (wy := [b11]) (fun _ _ _ q => ⟨q.2.1, q.2.2.1⟩) (allS ⟨gz11, (Or.inr gb11)⟩ all0) (fun _ _ => trivial) ?_
    intro v14 T14 h14 lo14 W14 K14 q14
    obtain ⟨rfl, -, -, X14, Fc14, t14, kb14, gz14, ge14, -, Fv14, A14⟩ := q14
    have B14 : Arv Z h14 t14 kb14 .byte (2 : Int32) [(.int (StrChars.lo8 (p1 &&& (255 : Int32)))), (.int (StrChars.lo8 (((p1.toUInt32 >>> ((8 : Int32) &&& 31).toUInt32).toInt32) &&& (255 : Int32))))] (.int 0) := A14
    show Gl _ _ _ _ _ _ _ _ [(.ref b11)]
    refine o_astore W14 (L' := #[.val (.int p0), .val (.int p1), .val (.int p2), .val (.int 0), .val (.ref b1), .val (.ref b4), .val (.ref b7), .val (.ref b11), .unset, .unset, .unset, .unset, .unset]) (pc' := 113) (hb hy at_111) rfl rfl rfl ?_
    refine o_new W14 (w1 hw) (w2 hw) (w3 hw) (fun _ _ => trivial) (pc' := 116) (hb hy at_113) rfl (cells' := 7) (slots' := 20) rfl rfl (by decide) (by decide) ?_
    intro b15 T15 h15 W15 E15 ge15 gz15 gb15 A15 D15
    have Fb15_coder : Fld Z h15 b15 "java/lang/String" "coder" "B" (.int 0) := D15 (Or.inr (w27 hw)) (ty := .byte) (by decide)
    have Fb15_value : Fld Z h15 b15 "java/lang/String" "value" "[B" .null := D15 (Or.inr (w29 hw)) (ty := (.array .byte)) (by decide)
    refine o_dup W15 (pc' := 117) (hb hy at_116) rfl rfl ?_
    refine o_aload W15 (pc' := 119) (hb hy at_117) rfl rfl rfl ?_
    have c16 := (((V3.ext E4).other R5 (own_ne V3.lt ge4)).other R6 (own_ne V3.lt ge4))
    have c17 := (c8.keep K10 (ninS (own_ne c16.lt ge7) nin0))
    have c18 := ((((c8.keep K10 (ninS (own_ne c16.lt ge7) nin0)).ext E11).keep K14 (ninS (own_ne c17.lt ge11) nin0)).ext E15)
    have ok19 : own_ok [(p0 &&& (255 : Int32)), (((p0.toUInt32 >>> ((8 : Int32) &&& 31).toUInt32).toInt32) &&& (255 : Int32))] := ok9
    refine o_special W15 (y := (⟨"java/lang/String", "<init>", "([C)V"⟩ : MethodName)) rfl (w4 hw) (w5 hw) (w6 hw) (by decide) (a := b15) (argsL := [(.ref b1)]) (StrChars.Road.backV (W := 1) W15.2.2.2.1 (own_hV hw) (kI := 4) (w2 hw) (cs := [(p0 &&& (255 : Int32)), (((p0.toUInt32 >>> ((8 : Int32) &&& 31).toUInt32).toInt32) &&& (255 : Int32))]) (bs := [((p0 &&& (255 : Int32))).toInt8.toInt32, ((((p0.toUInt32 >>> ((8 : Int32) &&& 31).toUInt32).toInt32) &&& (255 : Int32))).toInt8.toInt32]) (n := 2) (n0 := Z.heap.size) gz15 W15.zs A15 Fb15_value Fb15_coder c18 (SgCS.ext W15.ox) NgCS rfl rfl (by decide) (by decide) ok19.1 rfl (by decide) (by decide)) (by rw [hml]; rfl) (lenOf pd0 rfl) (S := [(.ref b15)]) rfl (by exact Nat.le_of_eq rfl) (pc' := 122) (hb hy at_119) rfl (cells' := 8) (slots' := 22) rfl rfl (by decide) (by decide) (wy := [b15]) (fun _ _ _ q => ⟨q.2.1, q.2.2.1⟩) (allS ⟨gz15, (Or.inr gb15)⟩ all0) (fun _ _ => trivial) ?_
    intro v20 T20 h20 lo20 W20 K20 q20
    obtain ⟨rfl, -, -, X20, Fc20, t20, kb20, gz20, ge20, -, Fv20, A20⟩ := q20
    have B20 : Arv Z h20 t20 kb20 .byte (2 : Int32) [(.int (StrChars.lo8 (p0 &&& (255 : Int32)))), (.int (StrChars.lo8 (((p0.toUInt32 >>> ((8 : Int32) &&& 31).toUInt32).toInt32) &&& (255 : Int32))))] (.int 0) := A20
    show Gl _ _ _ _ _ _ _ _ [(.ref b15)]
    refine o_astore W20 (L' := #[.val (.int p0), .val (.int p1), .val (.int p2), .val (.int 0), .val (.ref b1), .val (.ref b4), .val (.ref b7), .val (.ref b11), .val (.ref b15), .unset, .unset, .unset, .unset]) (pc' := 124) (hb hy at_122) rfl rfl rfl ?_
    refine o_new W20 (w1 hw) (w2 hw) (w3 hw) (fun _ _ => trivial) (pc' := 127) (hb hy at_124) rfl (cells' := 9) (slots' := 26) rfl rfl (by decide) (by decide) ?_
    intro b21 T21 h21 W21 E21 ge21 gz21 gb21 A21 D21
    have Fb21_coder : Fld Z h21 b21 "java/lang/String" "coder" "B" (.int 0) := D21 (Or.inr (w27 hw)) (ty := .byte) (by decide)
    have Fb21_value : Fld Z h21 b21 "java/lang/String" "value" "[B" .null := D21 (Or.inr (w29 hw)) (ty := (.array .byte)) (by decide)
    refine o_dup W21 (pc' := 128) (hb hy at_127) rfl rfl ?_
    refine o_aload W21 (pc' := 130) (hb hy at_128) rfl rfl rfl ?_
    have c22 := ((V6.ext E7).keep K10 (ninS (own_ne V6.lt ge7) nin0))
    have c23 := (c12.keep K14 (ninS (own_ne c22.lt ge11) nin0))
    have c24 := ((((c12.keep K14 (ninS (own_ne c22.lt ge11) nin0)).ext E15).keep K20 (ninS (own_ne c23.lt ge15) nin0)).ext E21)
    have ok25 : own_ok [(p1 &&& (255 : Int32)), (((p1.toUInt32 >>> ((8 : Int32) &&& 31).toUInt32).toInt32) &&& (255 : Int32))] := ok13
    refine o_special W21 (y := (⟨"java/lang/String", "<init>", "([C)V"⟩ : MethodName)) rfl (w4 hw) (w5 hw) (w6 hw) (by decide) (a := b21) (argsL := [(.ref b4)]) (StrChars.Road.backV (W := 1) W21.2.2.2.1 (own_hV hw) (kI := 4) (w2 hw) (cs := [(p1 &&& (255 : Int32)), (((p1.toUInt32 >>> ((8 : Int32) &&& 31).toUInt32).toInt32) &&& (255 : Int32))]) (bs := [((p1 &&& (255 : Int32))).toInt8.toInt32, ((((p1.toUInt32 >>> ((8 : Int32) &&& 31).toUInt32).toInt32) &&& (255 : Int32))).toInt8.toInt32]) (n := 2) (n0 := Z.heap.size) gz21 W21.zs A21 Fb21_value Fb21_coder c24 (SgCS.ext W21.ox) NgCS rfl rfl (by decide) (by decide) ok25.1 rfl (by decide) (by decide)) (by rw [hml]; rfl) (lenOf pd0 rfl) (S := [(.ref b21)]) rfl (by exact Nat.le_of_eq rfl) (pc' := 133) (hb hy at_130) rfl (cells' := 10) (slots' := 28) rfl rfl (by decide) (by decide) (wy := [b21]) (fun _ _ _ q => ⟨q.2.1, q.2.2.1⟩) (allS ⟨gz21, (Or.inr gb21)⟩ all0) (fun _ _ => trivial) ?_
    intro v26 T26 h26 lo26 W26 K26 q26
    obtain ⟨rfl, -, -, X26, Fc26, t26, kb26, gz26, ge26, -, Fv26, A26⟩ := q26
    have B26 : Arv Z h26 t26 kb26 .byte (2 : Int32) [(.int (StrChars.lo8 (p1 &&& (255 : Int32)))), (.int (StrChars.lo8 (((p1.toUInt32 >>> ((8 : Int32) &&& 31).toUInt32).toInt32) &&& (255 : Int32))))] (.int 0) := A26
    show Gl _ _ _ _ _ _ _ _ [(.ref b21)]
    refine o_astore W26 (L' := #[.val (.int p0), .val (.int p1), .val (.int p2), .val (.int 0), .val (.ref b1), .val (.ref b4), .val (.ref b7), .val (.ref b11), .val (.ref b15), .val (.ref b21), .unset, .unset, .unset]) (pc' := 135) (hb hy at_133) rfl rfl rfl ?_
    refine o_new W26 (w30 hw) (w31 hw) (w32 hw) (fun _ _ => trivial) (pc' := 138) (hb hy at_135) rfl (cells' := 11) (slots' := 31) rfl rfl (by decide) (by decide) ?_
    intro b27 T27 h27 W27 E27 ge27 gz27 gb27 A27 D27
    have Fb27_kind : Fld Z h27 b27 "com/example/plebiscite/plebiscite/core/Constraint" "kind" "Lcom/example/plebiscite/plebiscite/core/Constraint$Kind;" .null := D27 (Or.inr (w80 hw)) (ty := (.object "com/example/plebiscite/plebiscite/core/Constraint$Kind")) (by decide)
    have Fb27_first : Fld Z h27 b27 "com/example/plebiscite/plebiscite/core/Constraint" "first" "Ljava/lang/String;" .null := D27 (Or.inr (w82 hw)) (ty := (.object "java/lang/String")) (by decide)
    have Fb27_second : Fld Z h27 b27 "com/example/plebiscite/plebiscite/core/Constraint" "second" "Ljava/lang/String;" .null := D27 (Or.inr (w84 hw)) (ty := (.object "java/lang/String")) (by decide)
    refine o_dup W27 (pc' := 139) (hb hy at_138) rfl rfl ?_
    refine o_iloadN W27 (pc' := 140) (hb hy at_139) rfl rfl ?_
    rcases (Classical.em (((p2 &&& (2147483647 : Int32)) % (3 : Int32)) = (0 : Int32))).symm with hq28 | hq28
    · rcases (Classical.em (((p2 &&& (2147483647 : Int32)) % (3 : Int32)) = (1 : Int32))).symm with hq29 | hq29
      · refine o_static W27 (y := (⟨"com/example/plebiscite/plebiscite/core/ConstraintOtherPinLaw", "kindOf", "(I)Lcom/example/plebiscite/plebiscite/core/Constraint$Kind;"⟩ : MethodName)) (w33 hw) (w34 hw) (w35 hw) (w36 hw) (by decide) (argsL := [(.int p2)]) (CtrN.back (Wd := 2) W27 (rm1 l Z a0 hw gN p2 h27 W27.old hq28 hq29 SgN_NON_COMMUTING) (w36 hw) (w35 hw) (by decide) (by decide)) (by rw [hml]; rfl) (lenOf pd1 rfl) (S := [(.ref b27), (.ref b27)]) rfl (by exact Nat.le_of_eq rfl) (pc' := 143) (hb hy at_140) rfl (cells' := 11) (slots' := 31) rfl rfl (by decide) (by decide) (wy := []) (fun _ _ _ q => ⟨q.1, q.2.1⟩) all0 (fun _ _ => trivial) ?_
        intro v30 T30 h30 lo30 W30 K30 q30
        obtain rfl := q30.2.2
        show Gl _ _ _ _ _ _ _ _ [(.ref gN), (.ref b27), (.ref b27)]
        refine o_aload W30 (pc' := 145) (hb hy at_143) rfl rfl rfl ?_
        refine o_aload W30 (pc' := 147) (hb hy at_145) rfl rfl rfl ?_
        by_cases hq43 : (StrChars.lo8 (p0 &&& (255 : Int32))) = (StrChars.lo8 (p1 &&& (255 : Int32)))
        · by_cases hq56 : (StrChars.lo8 (((p0.toUInt32 >>> ((8 : Int32) &&& 31).toUInt32).toInt32) &&& (255 : Int32))) = (StrChars.lo8 (((p1.toUInt32 >>> ((8 : Int32) &&& 31).toUInt32).toInt32) &&& (255 : Int32)))
          · have c57 := ((X10.ext E11).keep K14)
            have c58 := ((c57.ext E15).keep K20)
            have c59 := ((((((((Fv10.ext E11).keep K14 (ninS (own_ne X10.lt ge11) nin0)).ext E15).keep K20 (ninS (own_ne c57.lt ge15) nin0)).ext E21).keep K26 (ninS (own_ne c58.lt ge21) nin0)).ext E27).keep K30 nin0)
            have c60 := ((X14.ext E15).keep K20)
            have c61 := ((((((Fv14.ext E15).keep K20 (ninS (own_ne X14.lt ge15) nin0)).ext E21).keep K26 (ninS (own_ne c60.lt ge21) nin0)).ext E27).keep K30 nin0)
            have c62 := ((((((((Fc10.ext E11).keep K14 (ninS (own_ne X10.lt ge11) nin0)).ext E15).keep K20 (ninS (own_ne c57.lt ge15) nin0)).ext E21).keep K26 (ninS (own_ne c58.lt ge21) nin0)).ext E27).keep K30 nin0)
            have c63 := ((((((Fc14.ext E15).keep K20 (ninS (own_ne X14.lt ge15) nin0)).ext E21).keep K26 (ninS (own_ne c60.lt ge21) nin0)).ext E27).keep K30 nin0)
            have c64 := ((B10.ext E11).keep K14 (ninS (own_ne B10.lt ge11) nin0))
            have c65 := ((c64.ext E15).keep K20 (ninS (own_ne c64.lt ge15) nin0))
            have c66 := ((((((((B10.ext E11).keep K14 (ninS (own_ne B10.lt ge11) nin0)).ext E15).keep K20 (ninS (own_ne c64.lt ge15) nin0)).ext E21).keep K26 (ninS (own_ne c65.lt ge21) nin0)).ext E27).keep K30 nin0)
            have c67 := ((B14.ext E15).keep K20 (ninS (own_ne B14.lt ge15) nin0))
            have c68 := ((((((B14.ext E15).keep K20 (ninS (own_ne B14.lt ge15) nin0)).ext E21).keep K26 (ninS (own_ne c67.lt ge21) nin0)).ext E27).keep K30 nin0)
            have c69 := (Fb27_kind.keep K30 nin0)
            have c70 := (Fb27_first.keep K30 nin0)
            have c71 := (Fb27_second.keep K30 nin0)
            have c72 := ((((c58.ext E21).keep K26).ext E27).keep K30)
            have c73 := ((((c60.ext E21).keep K26).ext E27).keep K30)
            have c74 := (A27.keep K30)
            refine o_special W30 (y := (⟨"com/example/plebiscite/plebiscite/core/Constraint", "<init>", "(Lcom/example/plebiscite/plebiscite/core/Constraint$Kind;Ljava/lang/String;Ljava/lang/String;)V"⟩ : MethodName)) rfl (w41 hw) (w42 hw) (w43 hw) (by decide) (a := b27) (argsL := [(.ref gN), (.ref b7), (.ref b11)]) (CtrN.back (Wd := 1) W30 (rm9 l Z a0 hw gCS gN b27 b7 b11 t10 t14 kb10 (p0 &&& (255 : Int32)) (((p0.toUInt32 >>> ((8 : Int32) &&& 31).toUInt32).toInt32) &&& (255 : Int32)) kb14 (p1 &&& (255 : Int32)) (((p1.toUInt32 >>> ((8 : Int32) &&& 31).toUInt32).toInt32) &&& (255 : Int32)) h30 W30.old SgN_NON_COMMUTING c72 c59 c61 SgCS NgCS c62 c73 c63 c66 c68 hq43 hq56 c74 c69 gz27 c70 c71) (w43 hw) (w32 hw) (by decide) (by decide)) (by rw [hml]; rfl) (lenOf pd9 rfl) (S := [(.ref b27)]) rfl (by exact Nat.le_of_eq rfl) (pc' := 150) (hb hy at_147) rfl (cells' := 11) (slots' := 31) rfl rfl (by decide) (by decide) (wy := [b27]) (fun _ _ _ q => ⟨q.1, q.2.1⟩) (allS ⟨gz27, (Or.inr gb27)⟩ all0) (fun _ _ => trivial) ?_
            intro v75 T75 h75 lo75 W75 K75 q75
            obtain ⟨P75_0, P75_1, P75_2, rfl⟩ := q75.2.2
            show Gl _ _ _ _ _ _ _ _ [(.ref b27)]
            refine o_astore W75 (L' := #[.val (.int p0), .val (.int p1), .val (.int p2), .val (.int 0), .val (.ref b1), .val (.ref b4), .val (.ref b7), .val (.ref b11), .val (.ref b15), .val (.ref b21), .val (.ref b27), .unset, .unset]) (pc' := 152) (hb hy at_150) rfl rfl rfl ?_
            refine o_aload W75 (pc' := 154) (hb hy at_152) rfl rfl rfl ?_
            refine o_aload W75 (pc' := 156) (hb hy at_154) rfl rfl rfl ?_
            have c76 := ((c58.ext E21).keep K26)
            have c77 := (c59.keep K75 (ninS (own_ne c76.lt ge27) nin0))
            have c78 := (c62.keep K75 (ninS (own_ne c76.lt ge27) nin0))
            have c79 := ((c65.ext E21).keep K26 (ninS (own_ne c65.lt ge21) nin0))
            have c80 := (c66.keep K75 (ninS (own_ne c79.lt ge27) nin0))
            have c81 := ((X20.ext E21).keep K26)
            have c82 := (((((Fv20.ext E21).keep K26 (ninS (own_ne X20.lt ge21) nin0)).ext E27).keep K30 nin0).keep K75 (ninS (own_ne c81.lt ge27) nin0))
            have c83 := (((((Fc20.ext E21).keep K26 (ninS (own_ne X20.lt ge21) nin0)).ext E27).keep K30 nin0).keep K75 (ninS (own_ne c81.lt ge27) nin0))
            have c84 := ((B20.ext E21).keep K26 (ninS (own_ne B20.lt ge21) nin0))
            have c85 := (((((B20.ext E21).keep K26 (ninS (own_ne B20.lt ge21) nin0)).ext E27).keep K30 nin0).keep K75 (ninS (own_ne c84.lt ge27) nin0))
            have c86 := (c72.keep K75)
            have c87 := (((c81.ext E27).keep K30).keep K75)
            have c88 := (c74.keep K75)
            refine o_virtual W75 (y := (⟨"com/example/plebiscite/plebiscite/core/Constraint", "other", "(Ljava/lang/String;)Ljava/lang/String;"⟩ : MethodName)) (z := (⟨"com/example/plebiscite/plebiscite/core/Constraint", "other", "(Ljava/lang/String;)Ljava/lang/String;"⟩ : MethodName)) (w85 hw) (w86 hw) (o_nf W75 rfl (w88 hw)) (w88 hw) (w87 hw) (by decide) c88 (argsL := [(.ref b15)]) (CtrN.back (Wd := 0) W75 (rm10 l Z a0 hw gCS b27 b15 b7 t10 kb10 (p0 &&& (255 : Int32)) (((p0.toUInt32 >>> ((8 : Int32) &&& 31).toUInt32).toInt32) &&& (255 : Int32)) t20 kb20 b11 h75 W75.old P75_1 c86 SgCS NgCS c77 c78 c80 (own_b255 _) (own_b255 _) c87 c82 c83 c85 P75_2) (w89 hw) (w32 hw) (by decide) (by decide)) (by rw [hml]; rfl) (lenOf pd11 rfl) (S := []) rfl (by exact Nat.le_of_eq rfl) (pc' := 159) (hb hy at_156) rfl (cells' := 11) (slots' := 31) rfl rfl (by decide) (by decide) (wy := []) (fun _ _ _ q => ⟨q.1, q.2.1⟩) all0 (fun _ _ => trivial) ?_
            intro v89 T89 h89 lo89 W89 K89 q89
            obtain rfl := q89.2.2
            show Gl _ _ _ _ _ _ _ _ [(.ref b11)]
            refine o_astore W89 (L' := #[.val (.int p0), .val (.int p1), .val (.int p2), .val (.int 0), .val (.ref b1), .val (.ref b4), .val (.ref b7), .val (.ref b11), .val (.ref b15), .val (.ref b21), .val (.ref b27), .val (.ref b11), .unset]) (pc' := 161) (hb hy at_159) rfl rfl rfl ?_
            refine o_aload W89 (pc' := 163) (hb hy at_161) rfl rfl rfl ?_
            refine o_aload W89 (pc' := 165) (hb hy at_163) rfl rfl rfl ?_
            by_cases hq97 : (own_eq [(p0 &&& (255 : Int32)), (((p0.toUInt32 >>> ((8 : Int32) &&& 31).toUInt32).toInt32) &&& (255 : Int32))] [(p1 &&& (255 : Int32)), (((p1.toUInt32 >>> ((8 : Int32) &&& 31).toUInt32).toInt32) &&& (255 : Int32))]) = (0 : Int32)
            · have c98 := (P75_1.keep K89 nin0)
              have c99 := (c77.keep K89 nin0)
              have c100 := (c78.keep K89 nin0)
              have c101 := (c80.keep K89 nin0)
              have c102 := ((((Fv26.ext E27).keep K30 nin0).keep K75 (ninS (own_ne X26.lt ge27) nin0)).keep K89 nin0)
              have c103 := ((((Fc26.ext E27).keep K30 nin0).keep K75 (ninS (own_ne X26.lt ge27) nin0)).keep K89 nin0)
              have c104 := ((((B26.ext E27).keep K30 nin0).keep K75 (ninS (own_ne B26.lt ge27) nin0)).keep K89 nin0)
              have c105 := (c86.keep K89)
              have c106 := ((((X26.ext E27).keep K30).keep K75).keep K89)
              have c107 := (c88.keep K89)
              refine o_virtual W89 (y := (⟨"com/example/plebiscite/plebiscite/core/Constraint", "other", "(Ljava/lang/String;)Ljava/lang/String;"⟩ : MethodName)) (z := (⟨"com/example/plebiscite/plebiscite/core/Constraint", "other", "(Ljava/lang/String;)Ljava/lang/String;"⟩ : MethodName)) (w85 hw) (w86 hw) (o_nf W89 rfl (w88 hw)) (w88 hw) (w87 hw) (by decide) c107 (argsL := [(.ref b21)]) (CtrN.back (Wd := 0) W89 (rm11 l Z a0 hw gCS b27 b21 b7 t10 kb10 (p0 &&& (255 : Int32)) (((p0.toUInt32 >>> ((8 : Int32) &&& 31).toUInt32).toInt32) &&& (255 : Int32)) t26 kb26 (p1 &&& (255 : Int32)) (((p1.toUInt32 >>> ((8 : Int32) &&& 31).toUInt32).toInt32) &&& (255 : Int32)) h89 W89.old c98 c105 SgCS NgCS c99 c100 c101 (own_b255 _) (own_b255 _) c106 c102 c103 c104 (own_b255 _) (own_b255 _) hq97) (w89 hw) (w32 hw) (by decide) (by decide)) (by rw [hml]; rfl) (lenOf pd11 rfl) (S := []) rfl (by exact Nat.le_of_eq rfl) (pc' := 168) (hb hy at_165) rfl (cells' := 11) (slots' := 31) rfl rfl (by decide) (by decide) (wy := []) (fun _ _ _ q => ⟨q.1, q.2.1⟩) all0 (fun _ _ => trivial) ?_
              intro v108 T108 h108 lo108 W108 K108 q108
              obtain rfl := q108.2.2
              show Gl _ _ _ _ _ _ _ _ [(.ref b7)]
              refine o_astore W108 (L' := #[.val (.int p0), .val (.int p1), .val (.int p2), .val (.int 0), .val (.ref b1), .val (.ref b4), .val (.ref b7), .val (.ref b11), .val (.ref b15), .val (.ref b21), .val (.ref b27), .val (.ref b11), .val (.ref b7)]) (pc' := 170) (hb hy at_168) rfl rfl rfl ?_
              refine o_aload W108 (pc' := 172) (hb hy at_170) rfl rfl rfl ?_
              refine o_aload W108 (pc' := 174) (hb hy at_172) rfl rfl rfl ?_
              have c109 := (((c73.keep K75).keep K89).keep K108)
              have c110 := ((c60.ext E21).keep K26)
              have c111 := (((c61.keep K75 (ninS (own_ne c110.lt ge27) nin0)).keep K89 nin0).keep K108 nin0)
              have c112 := (((c63.keep K75 (ninS (own_ne c110.lt ge27) nin0)).keep K89 nin0).keep K108 nin0)
              have c113 := ((c67.ext E21).keep K26 (ninS (own_ne c67.lt ge21) nin0))
              have c114 := (((c68.keep K75 (ninS (own_ne c113.lt ge27) nin0)).keep K89 nin0).keep K108 nin0)
              have ok115 : own_ok [(p1 &&& (255 : Int32)), (((p1.toUInt32 >>> ((8 : Int32) &&& 31).toUInt32).toInt32) &&& (255 : Int32))] := ok25
              have ok116 : own_ok [(p1 &&& (255 : Int32)), (((p1.toUInt32 >>> ((8 : Int32) &&& 31).toUInt32).toInt32) &&& (255 : Int32))] := ok25
              refine o_virtual W108 (y := (⟨"java/lang/String", "equals", "(Ljava/lang/Object;)Z"⟩ : MethodName)) (z := (⟨"java/lang/String", "equals", "(Ljava/lang/Object;)Z"⟩ : MethodName)) (kc := 0) (ks := 0) (Q := fun v hh L => ((v = some (.int 1) ∧ [(p1 &&& (255 : Int32)), (((p1.toUInt32 >>> ((8 : Int32) &&& 31).toUInt32).toInt32) &&& (255 : Int32))] = [(p1 &&& (255 : Int32)), (((p1.toUInt32 >>> ((8 : Int32) &&& 31).toUInt32).toInt32) &&& (255 : Int32))]) ∨ (v = some (.int 0) ∧ ¬ [(p1 &&& (255 : Int32)), (((p1.toUInt32 >>> ((8 : Int32) &&& 31).toUInt32).toInt32) &&& (255 : Int32))] = [(p1 &&& (255 : Int32)), (((p1.toUInt32 >>> ((8 : Int32) &&& 31).toUInt32).toInt32) &&& (255 : Int32))])) ∧ L = [] ∧ hh = h108) (w99 hw) (w91 hw) (o_nf W108 rfl (w93 hw)) (w93 hw) (w92 hw) (by decide) c109 (argsL := [(.ref b11)]) (StrChars.Road.eqW (W := 0) W108.2.2.2.1 (own_hE hw) (kI := 4) (w2 hw) c109 c111 c112 c114 (own_cod ok115) (own_up ok115) ok115.2 c109 c111 c112 c114 (own_cod ok116) (own_up ok116) ok116.2 (SgCS.ext W108.ox) NgCS (by decide) (by decide)) (by rw [hml]; rfl) (lenOf pd10 rfl) (S := []) rfl (by exact Nat.le_of_eq rfl) (pc' := 177) (hb hy at_174) rfl (cells' := 11) (slots' := 31) rfl rfl (by decide) (by decide) (wy := []) (fun _ _ _ q => own_same q.2) all0 (fun _ _ => trivial) ?_
              intro v117 T117 h117 lo117 W117 K117 q117
              obtain rfl := own_eqv q117.1
              show Gl _ _ _ _ _ _ _ _ [(.int (own_eq [(p1 &&& (255 : Int32)), (((p1.toUInt32 >>> ((8 : Int32) &&& 31).toUInt32).toInt32) &&& (255 : Int32))] [(p1 &&& (255 : Int32)), (((p1.toUInt32 >>> ((8 : Int32) &&& 31).toUInt32).toInt32) &&& (255 : Int32))]))]
              refine o_ifN W117 (pc' := 180) (hb hy at_177) (XT.i0_eq_f (own_eqne _)) rfl ?_
              refine o_aload W117 (pc' := 182) (hb hy at_180) rfl rfl rfl ?_
              refine o_aload W117 (pc' := 184) (hb hy at_182) rfl rfl rfl ?_
              have c118 := ((c105.keep K108).keep K117)
              have c119 := ((c99.keep K108 nin0).keep K117 nin0)
              have c120 := ((c100.keep K108 nin0).keep K117 nin0)
              have c121 := ((c101.keep K108 nin0).keep K117 nin0)
              have ok122 : own_ok [(p0 &&& (255 : Int32)), (((p0.toUInt32 >>> ((8 : Int32) &&& 31).toUInt32).toInt32) &&& (255 : Int32))] := ok19
              have ok123 : own_ok [(p0 &&& (255 : Int32)), (((p0.toUInt32 >>> ((8 : Int32) &&& 31).toUInt32).toInt32) &&& (255 : Int32))] := ok19
              refine o_virtual W117 (y := (⟨"java/lang/String", "equals", "(Ljava/lang/Object;)Z"⟩ : MethodName)) (z := (⟨"java/lang/String", "equals", "(Ljava/lang/Object;)Z"⟩ : MethodName)) (kc := 0) (ks := 0) (Q := fun v hh L => ((v = some (.int 1) ∧ [(p0 &&& (255 : Int32)), (((p0.toUInt32 >>> ((8 : Int32) &&& 31).toUInt32).toInt32) &&& (255 : Int32))] = [(p0 &&& (255 : Int32)), (((p0.toUInt32 >>> ((8 : Int32) &&& 31).toUInt32).toInt32) &&& (255 : Int32))]) ∨ (v = some (.int 0) ∧ ¬ [(p0 &&& (255 : Int32)), (((p0.toUInt32 >>> ((8 : Int32) &&& 31).toUInt32).toInt32) &&& (255 : Int32))] = [(p0 &&& (255 : Int32)), (((p0.toUInt32 >>> ((8 : Int32) &&& 31).toUInt32).toInt32) &&& (255 : Int32))])) ∧ L = [] ∧ hh = h117) (w99 hw) (w91 hw) (o_nf W117 rfl (w93 hw)) (w93 hw) (w92 hw) (by decide) c118 (argsL := [(.ref b7)]) (StrChars.Road.eqW (W := 0) W117.2.2.2.1 (own_hE hw) (kI := 4) (w2 hw) c118 c119 c120 c121 (own_cod ok122) (own_up ok122) ok122.2 c118 c119 c120 c121 (own_cod ok123) (own_up ok123) ok123.2 (SgCS.ext W117.ox) NgCS (by decide) (by decide)) (by rw [hml]; rfl) (lenOf pd10 rfl) (S := []) rfl (by exact Nat.le_of_eq rfl) (pc' := 187) (hb hy at_184) rfl (cells' := 11) (slots' := 31) rfl rfl (by decide) (by decide) (wy := []) (fun _ _ _ q => own_same q.2) all0 (fun _ _ => trivial) ?_
              intro v124 T124 h124 lo124 W124 K124 q124
              obtain rfl := own_eqv q124.1
              show Gl _ _ _ _ _ _ _ _ [(.int (own_eq [(p0 &&& (255 : Int32)), (((p0.toUInt32 >>> ((8 : Int32) &&& 31).toUInt32).toInt32) &&& (255 : Int32))] [(p0 &&& (255 : Int32)), (((p0.toUInt32 >>> ((8 : Int32) &&& 31).toUInt32).toInt32) &&& (255 : Int32))]))]
              refine o_ifN W124 (pc' := 190) (hb hy at_187) (XT.i0_eq_f (own_eqne _)) rfl ?_
              refine o_iconst W124 (v := 1) (pc' := 191) (hb hy at_190) rfl rfl ?_
              refine o_goto W124 (pc' := 195) (hb hy at_191) (by decide) rfl ?_
              exact o_retN W124 hlk (t := .boolean) hret (by simp) (z' := (1 : Int32)) (by decide) (hb hy at_195) (by decide) (by decide) rfl
            · have c125 := (P75_1.keep K89 nin0)
              have c126 := (c77.keep K89 nin0)
              have c127 := (c78.keep K89 nin0)
              have c128 := (c80.keep K89 nin0)
              have c129 := ((((Fv26.ext E27).keep K30 nin0).keep K75 (ninS (own_ne X26.lt ge27) nin0)).keep K89 nin0)
              have c130 := ((((Fc26.ext E27).keep K30 nin0).keep K75 (ninS (own_ne X26.lt ge27) nin0)).keep K89 nin0)
              have c131 := ((((B26.ext E27).keep K30 nin0).keep K75 (ninS (own_ne B26.lt ge27) nin0)).keep K89 nin0)
              have c132 := (P75_2.keep K89 nin0)
              have c133 := (c86.keep K89)
              have c134 := ((((X26.ext E27).keep K30).keep K75).keep K89)
              have c135 := (c88.keep K89)
              refine o_virtual W89 (y := (⟨"com/example/plebiscite/plebiscite/core/Constraint", "other", "(Ljava/lang/String;)Ljava/lang/String;"⟩ : MethodName)) (z := (⟨"com/example/plebiscite/plebiscite/core/Constraint", "other", "(Ljava/lang/String;)Ljava/lang/String;"⟩ : MethodName)) (w85 hw) (w86 hw) (o_nf W89 rfl (w88 hw)) (w88 hw) (w87 hw) (by decide) c135 (argsL := [(.ref b21)]) (CtrN.back (Wd := 0) W89 (rm12 l Z a0 hw gCS b27 b21 b7 t10 kb10 (p0 &&& (255 : Int32)) (((p0.toUInt32 >>> ((8 : Int32) &&& 31).toUInt32).toInt32) &&& (255 : Int32)) t26 kb26 (p1 &&& (255 : Int32)) (((p1.toUInt32 >>> ((8 : Int32) &&& 31).toUInt32).toInt32) &&& (255 : Int32)) b11 h89 W89.old c125 c133 SgCS NgCS c126 c127 c128 (own_b255 _) (own_b255 _) c134 c129 c130 c131 (own_b255 _) (own_b255 _) hq97 c132) (w89 hw) (w32 hw) (by decide) (by decide)) (by rw [hml]; rfl) (lenOf pd11 rfl) (S := []) rfl (by exact Nat.le_of_eq rfl) (pc' := 168) (hb hy at_165) rfl (cells' := 11) (slots' := 31) rfl rfl (by decide) (by decide) (wy := []) (fun _ _ _ q => ⟨q.1, q.2.1⟩) all0 (fun _ _ => trivial) ?_
              intro v136 T136 h136 lo136 W136 K136 q136
              obtain rfl := q136.2.2
              show Gl _ _ _ _ _ _ _ _ [(.ref b11)]
              refine o_astore W136 (L' := #[.val (.int p0), .val (.int p1), .val (.int p2), .val (.int 0), .val (.ref b1), .val (.ref b4), .val (.ref b7), .val (.ref b11), .val (.ref b15), .val (.ref b21), .val (.ref b27), .val (.ref b11), .val (.ref b11)]) (pc' := 170) (hb hy at_168) rfl rfl rfl ?_
              refine o_aload W136 (pc' := 172) (hb hy at_170) rfl rfl rfl ?_
              refine o_aload W136 (pc' := 174) (hb hy at_172) rfl rfl rfl ?_
              have c137 := (((c73.keep K75).keep K89).keep K136)
              have c138 := ((c60.ext E21).keep K26)
              have c139 := (((c61.keep K75 (ninS (own_ne c138.lt ge27) nin0)).keep K89 nin0).keep K136 nin0)
              have c140 := (((c63.keep K75 (ninS (own_ne c138.lt ge27) nin0)).keep K89 nin0).keep K136 nin0)
              have c141 := ((c67.ext E21).keep K26 (ninS (own_ne c67.lt ge21) nin0))
              have c142 := (((c68.keep K75 (ninS (own_ne c141.lt ge27) nin0)).keep K89 nin0).keep K136 nin0)
              have ok143 : own_ok [(p1 &&& (255 : Int32)), (((p1.toUInt32 >>> ((8 : Int32) &&& 31).toUInt32).toInt32) &&& (255 : Int32))] := ok25
              have ok144 : own_ok [(p1 &&& (255 : Int32)), (((p1.toUInt32 >>> ((8 : Int32) &&& 31).toUInt32).toInt32) &&& (255 : Int32))] := ok25
              refine o_virtual W136 (y := (⟨"java/lang/String", "equals", "(Ljava/lang/Object;)Z"⟩ : MethodName)) (z := (⟨"java/lang/String", "equals", "(Ljava/lang/Object;)Z"⟩ : MethodName)) (kc := 0) (ks := 0) (Q := fun v hh L => ((v = some (.int 1) ∧ [(p1 &&& (255 : Int32)), (((p1.toUInt32 >>> ((8 : Int32) &&& 31).toUInt32).toInt32) &&& (255 : Int32))] = [(p1 &&& (255 : Int32)), (((p1.toUInt32 >>> ((8 : Int32) &&& 31).toUInt32).toInt32) &&& (255 : Int32))]) ∨ (v = some (.int 0) ∧ ¬ [(p1 &&& (255 : Int32)), (((p1.toUInt32 >>> ((8 : Int32) &&& 31).toUInt32).toInt32) &&& (255 : Int32))] = [(p1 &&& (255 : Int32)), (((p1.toUInt32 >>> ((8 : Int32) &&& 31).toUInt32).toInt32) &&& (255 : Int32))])) ∧ L = [] ∧ hh = h136) (w99 hw) (w91 hw) (o_nf W136 rfl (w93 hw)) (w93 hw) (w92 hw) (by decide) c137 (argsL := [(.ref b11)]) (StrChars.Road.eqW (W := 0) W136.2.2.2.1 (own_hE hw) (kI := 4) (w2 hw) c137 c139 c140 c142 (own_cod ok143) (own_up ok143) ok143.2 c137 c139 c140 c142 (own_cod ok144) (own_up ok144) ok144.2 (SgCS.ext W136.ox) NgCS (by decide) (by decide)) (by rw [hml]; rfl) (lenOf pd10 rfl) (S := []) rfl (by exact Nat.le_of_eq rfl) (pc' := 177) (hb hy at_174) rfl (cells' := 11) (slots' := 31) rfl rfl (by decide) (by decide) (wy := []) (fun _ _ _ q => own_same q.2) all0 (fun _ _ => trivial) ?_
              intro v145 T145 h145 lo145 W145 K145 q145
              obtain rfl := own_eqv q145.1
              show Gl _ _ _ _ _ _ _ _ [(.int (own_eq [(p1 &&& (255 : Int32)), (((p1.toUInt32 >>> ((8 : Int32) &&& 31).toUInt32).toInt32) &&& (255 : Int32))] [(p1 &&& (255 : Int32)), (((p1.toUInt32 >>> ((8 : Int32) &&& 31).toUInt32).toInt32) &&& (255 : Int32))]))]
              refine o_ifN W145 (pc' := 180) (hb hy at_177) (XT.i0_eq_f (own_eqne _)) rfl ?_
              refine o_aload W145 (pc' := 182) (hb hy at_180) rfl rfl rfl ?_
              refine o_aload W145 (pc' := 184) (hb hy at_182) rfl rfl rfl ?_
              have c146 := (c137.keep K145)
              have c147 := (c139.keep K145 nin0)
              have c148 := (c140.keep K145 nin0)
              have c149 := (c142.keep K145 nin0)
              have c150 := ((c133.keep K136).keep K145)
              have c151 := ((c126.keep K136 nin0).keep K145 nin0)
              have c152 := ((c127.keep K136 nin0).keep K145 nin0)
              have c153 := ((c128.keep K136 nin0).keep K145 nin0)
              have ok154 : own_ok [(p1 &&& (255 : Int32)), (((p1.toUInt32 >>> ((8 : Int32) &&& 31).toUInt32).toInt32) &&& (255 : Int32))] := ok25
              have ok155 : own_ok [(p0 &&& (255 : Int32)), (((p0.toUInt32 >>> ((8 : Int32) &&& 31).toUInt32).toInt32) &&& (255 : Int32))] := ok19
              refine o_virtual W145 (y := (⟨"java/lang/String", "equals", "(Ljava/lang/Object;)Z"⟩ : MethodName)) (z := (⟨"java/lang/String", "equals", "(Ljava/lang/Object;)Z"⟩ : MethodName)) (kc := 0) (ks := 0) (Q := fun v hh L => ((v = some (.int 1) ∧ [(p1 &&& (255 : Int32)), (((p1.toUInt32 >>> ((8 : Int32) &&& 31).toUInt32).toInt32) &&& (255 : Int32))] = [(p0 &&& (255 : Int32)), (((p0.toUInt32 >>> ((8 : Int32) &&& 31).toUInt32).toInt32) &&& (255 : Int32))]) ∨ (v = some (.int 0) ∧ ¬ [(p1 &&& (255 : Int32)), (((p1.toUInt32 >>> ((8 : Int32) &&& 31).toUInt32).toInt32) &&& (255 : Int32))] = [(p0 &&& (255 : Int32)), (((p0.toUInt32 >>> ((8 : Int32) &&& 31).toUInt32).toInt32) &&& (255 : Int32))])) ∧ L = [] ∧ hh = h145) (w99 hw) (w91 hw) (o_nf W145 rfl (w93 hw)) (w93 hw) (w92 hw) (by decide) c146 (argsL := [(.ref b7)]) (StrChars.Road.eqW (W := 0) W145.2.2.2.1 (own_hE hw) (kI := 4) (w2 hw) c146 c147 c148 c149 (own_cod ok154) (own_up ok154) ok154.2 c150 c151 c152 c153 (own_cod ok155) (own_up ok155) ok155.2 (SgCS.ext W145.ox) NgCS (by decide) (by decide)) (by rw [hml]; rfl) (lenOf pd10 rfl) (S := []) rfl (by exact Nat.le_of_eq rfl) (pc' := 187) (hb hy at_184) rfl (cells' := 11) (slots' := 31) rfl rfl (by decide) (by decide) (wy := []) (fun _ _ _ q => own_same q.2) all0 (fun _ _ => trivial) ?_
              intro v156 T156 h156 lo156 W156 K156 q156
              obtain rfl := own_eqv q156.1
              show Gl _ _ _ _ _ _ _ _ [(.int (own_eq [(p1 &&& (255 : Int32)), (((p1.toUInt32 >>> ((8 : Int32) &&& 31).toUInt32).toInt32) &&& (255 : Int32))] [(p0 &&& (255 : Int32)), (((p0.toUInt32 >>> ((8 : Int32) &&& 31).toUInt32).toInt32) &&& (255 : Int32))]))]
              refine o_ifN W156 (pc' := 190) (hb hy at_187) (XT.i0_eq_f (fun q => hq97 ((own_eq_symm _ _).trans q))) rfl ?_
              refine o_iconst W156 (v := 1) (pc' := 191) (hb hy at_190) rfl rfl ?_
              refine o_goto W156 (pc' := 195) (hb hy at_191) (by decide) rfl ?_
              exact o_retN W156 hlk (t := .boolean) hret (by simp) (z' := (1 : Int32)) (by decide) (hb hy at_195) (by decide) (by decide) rfl
          · rcases (Classical.em ((0 : Int32) < (((StrChars.lo8 (((p0.toUInt32 >>> ((8 : Int32) &&& 31).toUInt32).toInt32) &&& (255 : Int32))) &&& (255 : Int32)) - ((StrChars.lo8 (((p1.toUInt32 >>> ((8 : Int32) &&& 31).toUInt32).toInt32) &&& (255 : Int32))) &&& (255 : Int32))))).symm with hq169 | hq169
            · have c170 := ((X10.ext E11).keep K14)
              have c171 := ((c170.ext E15).keep K20)
              have c172 := ((((((((Fv10.ext E11).keep K14 (ninS (own_ne X10.lt ge11) nin0)).ext E15).keep K20 (ninS (own_ne c170.lt ge15) nin0)).ext E21).keep K26 (ninS (own_ne c171.lt ge21) nin0)).ext E27).keep K30 nin0)
              have c173 := ((X14.ext E15).keep K20)
              have c174 := ((((((Fv14.ext E15).keep K20 (ninS (own_ne X14.lt ge15) nin0)).ext E21).keep K26 (ninS (own_ne c173.lt ge21) nin0)).ext E27).keep K30 nin0)
              have c175 := ((((((((Fc10.ext E11).keep K14 (ninS (own_ne X10.lt ge11) nin0)).ext E15).keep K20 (ninS (own_ne c170.lt ge15) nin0)).ext E21).keep K26 (ninS (own_ne c171.lt ge21) nin0)).ext E27).keep K30 nin0)
              have c176 := ((((((Fc14.ext E15).keep K20 (ninS (own_ne X14.lt ge15) nin0)).ext E21).keep K26 (ninS (own_ne c173.lt ge21) nin0)).ext E27).keep K30 nin0)
              have c177 := ((B10.ext E11).keep K14 (ninS (own_ne B10.lt ge11) nin0))
              have c178 := ((c177.ext E15).keep K20 (ninS (own_ne c177.lt ge15) nin0))
              have c179 := ((((((((B10.ext E11).keep K14 (ninS (own_ne B10.lt ge11) nin0)).ext E15).keep K20 (ninS (own_ne c177.lt ge15) nin0)).ext E21).keep K26 (ninS (own_ne c178.lt ge21) nin0)).ext E27).keep K30 nin0)
              have c180 := ((B14.ext E15).keep K20 (ninS (own_ne B14.lt ge15) nin0))
              have c181 := ((((((B14.ext E15).keep K20 (ninS (own_ne B14.lt ge15) nin0)).ext E21).keep K26 (ninS (own_ne c180.lt ge21) nin0)).ext E27).keep K30 nin0)
              have c182 := (Fb27_kind.keep K30 nin0)
              have c183 := (Fb27_first.keep K30 nin0)
              have c184 := (Fb27_second.keep K30 nin0)
              have c185 := ((((c171.ext E21).keep K26).ext E27).keep K30)
              have c186 := ((((c173.ext E21).keep K26).ext E27).keep K30)
              have c187 := (A27.keep K30)
              refine o_special W30 (y := (⟨"com/example/plebiscite/plebiscite/core/Constraint", "<init>", "(Lcom/example/plebiscite/plebiscite/core/Constraint$Kind;Ljava/lang/String;Ljava/lang/String;)V"⟩ : MethodName)) rfl (w41 hw) (w42 hw) (w43 hw) (by decide) (a := b27) (argsL := [(.ref gN), (.ref b7), (.ref b11)]) (CtrN.back (Wd := 1) W30 (rm18 l Z a0 hw gCS gN b27 b7 b11 t10 t14 kb10 (p0 &&& (255 : Int32)) (((p0.toUInt32 >>> ((8 : Int32) &&& 31).toUInt32).toInt32) &&& (255 : Int32)) kb14 (p1 &&& (255 : Int32)) (((p1.toUInt32 >>> ((8 : Int32) &&& 31).toUInt32).toInt32) &&& (255 : Int32)) h30 W30.old SgN_NON_COMMUTING c185 c172 c174 SgCS NgCS c175 c186 c176 c179 c181 hq43 hq56 hq169 c187 c182 gz27 c183 c184) (w43 hw) (w32 hw) (by decide) (by decide)) (by rw [hml]; rfl) (lenOf pd9 rfl) (S := [(.ref b27)]) rfl (by exact Nat.le_of_eq rfl) (pc' := 150) (hb hy at_147) rfl (cells' := 11) (slots' := 31) rfl rfl (by decide) (by decide) (wy := [b27]) (fun _ _ _ q => ⟨q.1, q.2.1⟩) (allS ⟨gz27, (Or.inr gb27)⟩ all0) (fun _ _ => trivial) ?_
              intro v188 T188 h188 lo188 W188 K188 q188
              obtain ⟨P188_0, P188_1, P188_2, rfl⟩ := q188.2.2
              show Gl _ _ _ _ _ _ _ _ [(.ref b27)]
              refine o_astore W188 (L' := #[.val (.int p0), .val (.int p1), .val (.int p2), .val (.int 0), .val (.ref b1), .val (.ref b4), .val (.ref b7), .val (.ref b11), .val (.ref b15), .val (.ref b21), .val (.ref b27), .unset, .unset]) (pc' := 152) (hb hy at_150) rfl rfl rfl ?_
              refine o_aload W188 (pc' := 154) (hb hy at_152) rfl rfl rfl ?_
              refine o_aload W188 (pc' := 156) (hb hy at_154) rfl rfl rfl ?_
              have c189 := ((c171.ext E21).keep K26)
              have c190 := (c172.keep K188 (ninS (own_ne c189.lt ge27) nin0))
              have c191 := (c175.keep K188 (ninS (own_ne c189.lt ge27) nin0))
              have c192 := ((c178.ext E21).keep K26 (ninS (own_ne c178.lt ge21) nin0))
              have c193 := (c179.keep K188 (ninS (own_ne c192.lt ge27) nin0))
              have c194 := ((X20.ext E21).keep K26)
              have c195 := (((((Fv20.ext E21).keep K26 (ninS (own_ne X20.lt ge21) nin0)).ext E27).keep K30 nin0).keep K188 (ninS (own_ne c194.lt ge27) nin0))
              have c196 := (((((Fc20.ext E21).keep K26 (ninS (own_ne X20.lt ge21) nin0)).ext E27).keep K30 nin0).keep K188 (ninS (own_ne c194.lt ge27) nin0))
              have c197 := ((B20.ext E21).keep K26 (ninS (own_ne B20.lt ge21) nin0))
              have c198 := (((((B20.ext E21).keep K26 (ninS (own_ne B20.lt ge21) nin0)).ext E27).keep K30 nin0).keep K188 (ninS (own_ne c197.lt ge27) nin0))
              have c199 := (c185.keep K188)
              have c200 := (((c194.ext E27).keep K30).keep K188)
              have c201 := (c187.keep K188)
              refine o_virtual W188 (y := (⟨"com/example/plebiscite/plebiscite/core/Constraint", "other", "(Ljava/lang/String;)Ljava/lang/String;"⟩ : MethodName)) (z := (⟨"com/example/plebiscite/plebiscite/core/Constraint", "other", "(Ljava/lang/String;)Ljava/lang/String;"⟩ : MethodName)) (w85 hw) (w86 hw) (o_nf W188 rfl (w88 hw)) (w88 hw) (w87 hw) (by decide) c201 (argsL := [(.ref b15)]) (CtrN.back (Wd := 0) W188 (rm10 l Z a0 hw gCS b27 b15 b7 t10 kb10 (p0 &&& (255 : Int32)) (((p0.toUInt32 >>> ((8 : Int32) &&& 31).toUInt32).toInt32) &&& (255 : Int32)) t20 kb20 b11 h188 W188.old P188_1 c199 SgCS NgCS c190 c191 c193 (own_b255 _) (own_b255 _) c200 c195 c196 c198 P188_2) (w89 hw) (w32 hw) (by decide) (by decide)) (by rw [hml]; rfl) (lenOf pd11 rfl) (S := []) rfl (by exact Nat.le_of_eq rfl) (pc' := 159) (hb hy at_156) rfl (cells' := 11) (slots' := 31) rfl rfl (by decide) (by decide) (wy := []) (fun _ _ _ q => ⟨q.1, q.2.1⟩) all0 (fun _ _ => trivial) ?_
              intro v202 T202 h202 lo202 W202 K202 q202
              obtain rfl := q202.2.2
              show Gl _ _ _ _ _ _ _ _ [(.ref b11)]
              refine o_astore W202 (L' := #[.val (.int p0), .val (.int p1), .val (.int p2), .val (.int 0), .val (.ref b1), .val (.ref b4), .val (.ref b7), .val (.ref b11), .val (.ref b15), .val (.ref b21), .val (.ref b27), .val (.ref b11), .unset]) (pc' := 161) (hb hy at_159) rfl rfl rfl ?_
              refine o_aload W202 (pc' := 163) (hb hy at_161) rfl rfl rfl ?_
              refine o_aload W202 (pc' := 165) (hb hy at_163) rfl rfl rfl ?_
              by_cases hq210 : (own_eq [(p0 &&& (255 : Int32)), (((p0.toUInt32 >>> ((8 : Int32) &&& 31).toUInt32).toInt32) &&& (255 : Int32))] [(p1 &&& (255 : Int32)), (((p1.toUInt32 >>> ((8 : Int32) &&& 31).toUInt32).toInt32) &&& (255 : Int32))]) = (0 : Int32)
              · have c211 := (P188_1.keep K202 nin0)
                have c212 := (c190.keep K202 nin0)
                have c213 := (c191.keep K202 nin0)
                have c214 := (c193.keep K202 nin0)
                have c215 := ((((Fv26.ext E27).keep K30 nin0).keep K188 (ninS (own_ne X26.lt ge27) nin0)).keep K202 nin0)
                have c216 := ((((Fc26.ext E27).keep K30 nin0).keep K188 (ninS (own_ne X26.lt ge27) nin0)).keep K202 nin0)
                have c217 := ((((B26.ext E27).keep K30 nin0).keep K188 (ninS (own_ne B26.lt ge27) nin0)).keep K202 nin0)
                have c218 := (c199.keep K202)
                have c219 := ((((X26.ext E27).keep K30).keep K188).keep K202)
                have c220 := (c201.keep K202)
                refine o_virtual W202 (y := (⟨"com/example/plebiscite/plebiscite/core/Constraint", "other", "(Ljava/lang/String;)Ljava/lang/String;"⟩ : MethodName)) (z := (⟨"com/example/plebiscite/plebiscite/core/Constraint", "other", "(Ljava/lang/String;)Ljava/lang/String;"⟩ : MethodName)) (w85 hw) (w86 hw) (o_nf W202 rfl (w88 hw)) (w88 hw) (w87 hw) (by decide) c220 (argsL := [(.ref b21)]) (CtrN.back (Wd := 0) W202 (rm11 l Z a0 hw gCS b27 b21 b7 t10 kb10 (p0 &&& (255 : Int32)) (((p0.toUInt32 >>> ((8 : Int32) &&& 31).toUInt32).toInt32) &&& (255 : Int32)) t26 kb26 (p1 &&& (255 : Int32)) (((p1.toUInt32 >>> ((8 : Int32) &&& 31).toUInt32).toInt32) &&& (255 : Int32)) h202 W202.old c211 c218 SgCS NgCS c212 c213 c214 (own_b255 _) (own_b255 _) c219 c215 c216 c217 (own_b255 _) (own_b255 _) hq210) (w89 hw) (w32 hw) (by decide) (by decide)) (by rw [hml]; rfl) (lenOf pd11 rfl) (S := []) rfl (by exact Nat.le_of_eq rfl) (pc' := 168) (hb hy at_165) rfl (cells' := 11) (slots' := 31) rfl rfl (by decide) (by decide) (wy := []) (fun _ _ _ q => ⟨q.1, q.2.1⟩) all0 (fun _ _ => trivial) ?_
                intro v221 T221 h221 lo221 W221 K221 q221
                obtain rfl := q221.2.2
                show Gl _ _ _ _ _ _ _ _ [(.ref b7)]
                refine o_astore W221 (L' := #[.val (.int p0), .val (.int p1), .val (.int p2), .val (.int 0), .val (.ref b1), .val (.ref b4), .val (.ref b7), .val (.ref b11), .val (.ref b15), .val (.ref b21), .val (.ref b27), .val (.ref b11), .val (.ref b7)]) (pc' := 170) (hb hy at_168) rfl rfl rfl ?_
                refine o_aload W221 (pc' := 172) (hb hy at_170) rfl rfl rfl ?_
                refine o_aload W221 (pc' := 174) (hb hy at_172) rfl rfl rfl ?_
                have c222 := (((c186.keep K188).keep K202).keep K221)
                have c223 := ((c173.ext E21).keep K26)
                have c224 := (((c174.keep K188 (ninS (own_ne c223.lt ge27) nin0)).keep K202 nin0).keep K221 nin0)
                have c225 := (((c176.keep K188 (ninS (own_ne c223.lt ge27) nin0)).keep K202 nin0).keep K221 nin0)
                have c226 := ((c180.ext E21).keep K26 (ninS (own_ne c180.lt ge21) nin0))
                have c227 := (((c181.keep K188 (ninS (own_ne c226.lt ge27) nin0)).keep K202 nin0).keep K221 nin0)
                have ok228 : own_ok [(p1 &&& (255 : Int32)), (((p1.toUInt32 >>> ((8 : Int32) &&& 31).toUInt32).toInt32) &&& (255 : Int32))] := ok25
                have ok229 : own_ok [(p1 &&& (255 : Int32)), (((p1.toUInt32 >>> ((8 : Int32) &&& 31).toUInt32).toInt32) &&& (255 : Int32))] := ok25
                refine o_virtual W221 (y := (⟨"java/lang/String", "equals", "(Ljava/lang/Object;)Z"⟩ : MethodName)) (z := (⟨"java/lang/String", "equals", "(Ljava/lang/Object;)Z"⟩ : MethodName)) (kc := 0) (ks := 0) (Q := fun v hh L => ((v = some (.int 1) ∧ [(p1 &&& (255 : Int32)), (((p1.toUInt32 >>> ((8 : Int32) &&& 31).toUInt32).toInt32) &&& (255 : Int32))] = [(p1 &&& (255 : Int32)), (((p1.toUInt32 >>> ((8 : Int32) &&& 31).toUInt32).toInt32) &&& (255 : Int32))]) ∨ (v = some (.int 0) ∧ ¬ [(p1 &&& (255 : Int32)), (((p1.toUInt32 >>> ((8 : Int32) &&& 31).toUInt32).toInt32) &&& (255 : Int32))] = [(p1 &&& (255 : Int32)), (((p1.toUInt32 >>> ((8 : Int32) &&& 31).toUInt32).toInt32) &&& (255 : Int32))])) ∧ L = [] ∧ hh = h221) (w99 hw) (w91 hw) (o_nf W221 rfl (w93 hw)) (w93 hw) (w92 hw) (by decide) c222 (argsL := [(.ref b11)]) (StrChars.Road.eqW (W := 0) W221.2.2.2.1 (own_hE hw) (kI := 4) (w2 hw) c222 c224 c225 c227 (own_cod ok228) (own_up ok228) ok228.2 c222 c224 c225 c227 (own_cod ok229) (own_up ok229) ok229.2 (SgCS.ext W221.ox) NgCS (by decide) (by decide)) (by rw [hml]; rfl) (lenOf pd10 rfl) (S := []) rfl (by exact Nat.le_of_eq rfl) (pc' := 177) (hb hy at_174) rfl (cells' := 11) (slots' := 31) rfl rfl (by decide) (by decide) (wy := []) (fun _ _ _ q => own_same q.2) all0 (fun _ _ => trivial) ?_
                intro v230 T230 h230 lo230 W230 K230 q230
                obtain rfl := own_eqv q230.1
                show Gl _ _ _ _ _ _ _ _ [(.int (own_eq [(p1 &&& (255 : Int32)), (((p1.toUInt32 >>> ((8 : Int32) &&& 31).toUInt32).toInt32) &&& (255 : Int32))] [(p1 &&& (255 : Int32)), (((p1.toUInt32 >>> ((8 : Int32) &&& 31).toUInt32).toInt32) &&& (255 : Int32))]))]
                refine o_ifN W230 (pc' := 180) (hb hy at_177) (XT.i0_eq_f (own_eqne _)) rfl ?_
                refine o_aload W230 (pc' := 182) (hb hy at_180) rfl rfl rfl ?_
                refine o_aload W230 (pc' := 184) (hb hy at_182) rfl rfl rfl ?_
                have c231 := ((c218.keep K221).keep K230)
                have c232 := ((c212.keep K221 nin0).keep K230 nin0)
                have c233 := ((c213.keep K221 nin0).keep K230 nin0)
                have c234 := ((c214.keep K221 nin0).keep K230 nin0)
                have ok235 : own_ok [(p0 &&& (255 : Int32)), (((p0.toUInt32 >>> ((8 : Int32) &&& 31).toUInt32).toInt32) &&& (255 : Int32))] := ok19
                have ok236 : own_ok [(p0 &&& (255 : Int32)), (((p0.toUInt32 >>> ((8 : Int32) &&& 31).toUInt32).toInt32) &&& (255 : Int32))] := ok19
                refine o_virtual W230 (y := (⟨"java/lang/String", "equals", "(Ljava/lang/Object;)Z"⟩ : MethodName)) (z := (⟨"java/lang/String", "equals", "(Ljava/lang/Object;)Z"⟩ : MethodName)) (kc := 0) (ks := 0) (Q := fun v hh L => ((v = some (.int 1) ∧ [(p0 &&& (255 : Int32)), (((p0.toUInt32 >>> ((8 : Int32) &&& 31).toUInt32).toInt32) &&& (255 : Int32))] = [(p0 &&& (255 : Int32)), (((p0.toUInt32 >>> ((8 : Int32) &&& 31).toUInt32).toInt32) &&& (255 : Int32))]) ∨ (v = some (.int 0) ∧ ¬ [(p0 &&& (255 : Int32)), (((p0.toUInt32 >>> ((8 : Int32) &&& 31).toUInt32).toInt32) &&& (255 : Int32))] = [(p0 &&& (255 : Int32)), (((p0.toUInt32 >>> ((8 : Int32) &&& 31).toUInt32).toInt32) &&& (255 : Int32))])) ∧ L = [] ∧ hh = h230) (w99 hw) (w91 hw) (o_nf W230 rfl (w93 hw)) (w93 hw) (w92 hw) (by decide) c231 (argsL := [(.ref b7)]) (StrChars.Road.eqW (W := 0) W230.2.2.2.1 (own_hE hw) (kI := 4) (w2 hw) c231 c232 c233 c234 (own_cod ok235) (own_up ok235) ok235.2 c231 c232 c233 c234 (own_cod ok236) (own_up ok236) ok236.2 (SgCS.ext W230.ox) NgCS (by decide) (by decide)) (by rw [hml]; rfl) (lenOf pd10 rfl) (S := []) rfl (by exact Nat.le_of_eq rfl) (pc' := 187) (hb hy at_184) rfl (cells' := 11) (slots' := 31) rfl rfl (by decide) (by decide) (wy := []) (fun _ _ _ q => own_same q.2) all0 (fun _ _ => trivial) ?_
                intro v237 T237 h237 lo237 W237 K237 q237
                obtain rfl := own_eqv q237.1
                show Gl _ _ _ _ _ _ _ _ [(.int (own_eq [(p0 &&& (255 : Int32)), (((p0.toUInt32 >>> ((8 : Int32) &&& 31).toUInt32).toInt32) &&& (255 : Int32))] [(p0 &&& (255 : Int32)), (((p0.toUInt32 >>> ((8 : Int32) &&& 31).toUInt32).toInt32) &&& (255 : Int32))]))]
                refine o_ifN W237 (pc' := 190) (hb hy at_187) (XT.i0_eq_f (own_eqne _)) rfl ?_
                refine o_iconst W237 (v := 1) (pc' := 191) (hb hy at_190) rfl rfl ?_
                refine o_goto W237 (pc' := 195) (hb hy at_191) (by decide) rfl ?_
                exact o_retN W237 hlk (t := .boolean) hret (by simp) (z' := (1 : Int32)) (by decide) (hb hy at_195) (by decide) (by decide) rfl
              · have c238 := (P188_1.keep K202 nin0)
                have c239 := (c190.keep K202 nin0)
                have c240 := (c191.keep K202 nin0)
                have c241 := (c193.keep K202 nin0)
                have c242 := ((((Fv26.ext E27).keep K30 nin0).keep K188 (ninS (own_ne X26.lt ge27) nin0)).keep K202 nin0)
                have c243 := ((((Fc26.ext E27).keep K30 nin0).keep K188 (ninS (own_ne X26.lt ge27) nin0)).keep K202 nin0)
                have c244 := ((((B26.ext E27).keep K30 nin0).keep K188 (ninS (own_ne B26.lt ge27) nin0)).keep K202 nin0)
                have c245 := (P188_2.keep K202 nin0)
                have c246 := (c199.keep K202)
                have c247 := ((((X26.ext E27).keep K30).keep K188).keep K202)
                have c248 := (c201.keep K202)
                refine o_virtual W202 (y := (⟨"com/example/plebiscite/plebiscite/core/Constraint", "other", "(Ljava/lang/String;)Ljava/lang/String;"⟩ : MethodName)) (z := (⟨"com/example/plebiscite/plebiscite/core/Constraint", "other", "(Ljava/lang/String;)Ljava/lang/String;"⟩ : MethodName)) (w85 hw) (w86 hw) (o_nf W202 rfl (w88 hw)) (w88 hw) (w87 hw) (by decide) c248 (argsL := [(.ref b21)]) (CtrN.back (Wd := 0) W202 (rm12 l Z a0 hw gCS b27 b21 b7 t10 kb10 (p0 &&& (255 : Int32)) (((p0.toUInt32 >>> ((8 : Int32) &&& 31).toUInt32).toInt32) &&& (255 : Int32)) t26 kb26 (p1 &&& (255 : Int32)) (((p1.toUInt32 >>> ((8 : Int32) &&& 31).toUInt32).toInt32) &&& (255 : Int32)) b11 h202 W202.old c238 c246 SgCS NgCS c239 c240 c241 (own_b255 _) (own_b255 _) c247 c242 c243 c244 (own_b255 _) (own_b255 _) hq210 c245) (w89 hw) (w32 hw) (by decide) (by decide)) (by rw [hml]; rfl) (lenOf pd11 rfl) (S := []) rfl (by exact Nat.le_of_eq rfl) (pc' := 168) (hb hy at_165) rfl (cells' := 11) (slots' := 31) rfl rfl (by decide) (by decide) (wy := []) (fun _ _ _ q => ⟨q.1, q.2.1⟩) all0 (fun _ _ => trivial) ?_
                intro v249 T249 h249 lo249 W249 K249 q249
                obtain rfl := q249.2.2
                show Gl _ _ _ _ _ _ _ _ [(.ref b11)]
                refine o_astore W249 (L' := #[.val (.int p0), .val (.int p1), .val (.int p2), .val (.int 0), .val (.ref b1), .val (.ref b4), .val (.ref b7), .val (.ref b11), .val (.ref b15), .val (.ref b21), .val (.ref b27), .val (.ref b11), .val (.ref b11)]) (pc' := 170) (hb hy at_168) rfl rfl rfl ?_
                refine o_aload W249 (pc' := 172) (hb hy at_170) rfl rfl rfl ?_
                refine o_aload W249 (pc' := 174) (hb hy at_172) rfl rfl rfl ?_
                have c250 := (((c186.keep K188).keep K202).keep K249)
                have c251 := ((c173.ext E21).keep K26)
                have c252 := (((c174.keep K188 (ninS (own_ne c251.lt ge27) nin0)).keep K202 nin0).keep K249 nin0)
                have c253 := (((c176.keep K188 (ninS (own_ne c251.lt ge27) nin0)).keep K202 nin0).keep K249 nin0)
                have c254 := ((c180.ext E21).keep K26 (ninS (own_ne c180.lt ge21) nin0))
                have c255 := (((c181.keep K188 (ninS (own_ne c254.lt ge27) nin0)).keep K202 nin0).keep K249 nin0)
                have ok256 : own_ok [(p1 &&& (255 : Int32)), (((p1.toUInt32 >>> ((8 : Int32) &&& 31).toUInt32).toInt32) &&& (255 : Int32))] := ok25
                have ok257 : own_ok [(p1 &&& (255 : Int32)), (((p1.toUInt32 >>> ((8 : Int32) &&& 31).toUInt32).toInt32) &&& (255 : Int32))] := ok25
                refine o_virtual W249 (y := (⟨"java/lang/String", "equals", "(Ljava/lang/Object;)Z"⟩ : MethodName)) (z := (⟨"java/lang/String", "equals", "(Ljava/lang/Object;)Z"⟩ : MethodName)) (kc := 0) (ks := 0) (Q := fun v hh L => ((v = some (.int 1) ∧ [(p1 &&& (255 : Int32)), (((p1.toUInt32 >>> ((8 : Int32) &&& 31).toUInt32).toInt32) &&& (255 : Int32))] = [(p1 &&& (255 : Int32)), (((p1.toUInt32 >>> ((8 : Int32) &&& 31).toUInt32).toInt32) &&& (255 : Int32))]) ∨ (v = some (.int 0) ∧ ¬ [(p1 &&& (255 : Int32)), (((p1.toUInt32 >>> ((8 : Int32) &&& 31).toUInt32).toInt32) &&& (255 : Int32))] = [(p1 &&& (255 : Int32)), (((p1.toUInt32 >>> ((8 : Int32) &&& 31).toUInt32).toInt32) &&& (255 : Int32))])) ∧ L = [] ∧ hh = h249) (w99 hw) (w91 hw) (o_nf W249 rfl (w93 hw)) (w93 hw) (w92 hw) (by decide) c250 (argsL := [(.ref b11)]) (StrChars.Road.eqW (W := 0) W249.2.2.2.1 (own_hE hw) (kI := 4) (w2 hw) c250 c252 c253 c255 (own_cod ok256) (own_up ok256) ok256.2 c250 c252 c253 c255 (own_cod ok257) (own_up ok257) ok257.2 (SgCS.ext W249.ox) NgCS (by decide) (by decide)) (by rw [hml]; rfl) (lenOf pd10 rfl) (S := []) rfl (by exact Nat.le_of_eq rfl) (pc' := 177) (hb hy at_174) rfl (cells' := 11) (slots' := 31) rfl rfl (by decide) (by decide) (wy := []) (fun _ _ _ q => own_same q.2) all0 (fun _ _ => trivial) ?_
                intro v258 T258 h258 lo258 W258 K258 q258
                obtain rfl := own_eqv q258.1
                show Gl _ _ _ _ _ _ _ _ [(.int (own_eq [(p1 &&& (255 : Int32)), (((p1.toUInt32 >>> ((8 : Int32) &&& 31).toUInt32).toInt32) &&& (255 : Int32))] [(p1 &&& (255 : Int32)), (((p1.toUInt32 >>> ((8 : Int32) &&& 31).toUInt32).toInt32) &&& (255 : Int32))]))]
                refine o_ifN W258 (pc' := 180) (hb hy at_177) (XT.i0_eq_f (own_eqne _)) rfl ?_
                refine o_aload W258 (pc' := 182) (hb hy at_180) rfl rfl rfl ?_
                refine o_aload W258 (pc' := 184) (hb hy at_182) rfl rfl rfl ?_
                have c259 := (c250.keep K258)
                have c260 := (c252.keep K258 nin0)
                have c261 := (c253.keep K258 nin0)
                have c262 := (c255.keep K258 nin0)
                have c263 := ((c246.keep K249).keep K258)
                have c264 := ((c239.keep K249 nin0).keep K258 nin0)
                have c265 := ((c240.keep K249 nin0).keep K258 nin0)
                have c266 := ((c241.keep K249 nin0).keep K258 nin0)
                have ok267 : own_ok [(p1 &&& (255 : Int32)), (((p1.toUInt32 >>> ((8 : Int32) &&& 31).toUInt32).toInt32) &&& (255 : Int32))] := ok25
                have ok268 : own_ok [(p0 &&& (255 : Int32)), (((p0.toUInt32 >>> ((8 : Int32) &&& 31).toUInt32).toInt32) &&& (255 : Int32))] := ok19
                refine o_virtual W258 (y := (⟨"java/lang/String", "equals", "(Ljava/lang/Object;)Z"⟩ : MethodName)) (z := (⟨"java/lang/String", "equals", "(Ljava/lang/Object;)Z"⟩ : MethodName)) (kc := 0) (ks := 0) (Q := fun v hh L => ((v = some (.int 1) ∧ [(p1 &&& (255 : Int32)), (((p1.toUInt32 >>> ((8 : Int32) &&& 31).toUInt32).toInt32) &&& (255 : Int32))] = [(p0 &&& (255 : Int32)), (((p0.toUInt32 >>> ((8 : Int32) &&& 31).toUInt32).toInt32) &&& (255 : Int32))]) ∨ (v = some (.int 0) ∧ ¬ [(p1 &&& (255 : Int32)), (((p1.toUInt32 >>> ((8 : Int32) &&& 31).toUInt32).toInt32) &&& (255 : Int32))] = [(p0 &&& (255 : Int32)), (((p0.toUInt32 >>> ((8 : Int32) &&& 31).toUInt32).toInt32) &&& (255 : Int32))])) ∧ L = [] ∧ hh = h258) (w99 hw) (w91 hw) (o_nf W258 rfl (w93 hw)) (w93 hw) (w92 hw) (by decide) c259 (argsL := [(.ref b7)]) (StrChars.Road.eqW (W := 0) W258.2.2.2.1 (own_hE hw) (kI := 4) (w2 hw) c259 c260 c261 c262 (own_cod ok267) (own_up ok267) ok267.2 c263 c264 c265 c266 (own_cod ok268) (own_up ok268) ok268.2 (SgCS.ext W258.ox) NgCS (by decide) (by decide)) (by rw [hml]; rfl) (lenOf pd10 rfl) (S := []) rfl (by exact Nat.le_of_eq rfl) (pc' := 187) (hb hy at_184) rfl (cells' := 11) (slots' := 31) rfl rfl (by decide) (by decide) (wy := []) (fun _ _ _ q => own_same q.2) all0 (fun _ _ => trivial) ?_
                intro v269 T269 h269 lo269 W269 K269 q269
                obtain rfl := own_eqv q269.1
                show Gl _ _ _ _ _ _ _ _ [(.int (own_eq [(p1 &&& (255 : Int32)), (((p1.toUInt32 >>> ((8 : Int32) &&& 31).toUInt32).toInt32) &&& (255 : Int32))] [(p0 &&& (255 : Int32)), (((p0.toUInt32 >>> ((8 : Int32) &&& 31).toUInt32).toInt32) &&& (255 : Int32))]))]
                refine o_ifN W269 (pc' := 190) (hb hy at_187) (XT.i0_eq_f (fun q => hq210 ((own_eq_symm _ _).trans q))) rfl ?_
                refine o_iconst W269 (v := 1) (pc' := 191) (hb hy at_190) rfl rfl ?_
                refine o_goto W269 (pc' := 195) (hb hy at_191) (by decide) rfl ?_
                exact o_retN W269 hlk (t := .boolean) hret (by simp) (z' := (1 : Int32)) (by decide) (hb hy at_195) (by decide) (by decide) rfl
            · have c270 := ((X10.ext E11).keep K14)
              have c271 := ((c270.ext E15).keep K20)
              have c272 := ((((((((Fv10.ext E11).keep K14 (ninS (own_ne X10.lt ge11) nin0)).ext E15).keep K20 (ninS (own_ne c270.lt ge15) nin0)).ext E21).keep K26 (ninS (own_ne c271.lt ge21) nin0)).ext E27).keep K30 nin0)
              have c273 := ((X14.ext E15).keep K20)
              have c274 := ((((((Fv14.ext E15).keep K20 (ninS (own_ne X14.lt ge15) nin0)).ext E21).keep K26 (ninS (own_ne c273.lt ge21) nin0)).ext E27).keep K30 nin0)
              have c275 := ((((((((Fc10.ext E11).keep K14 (ninS (own_ne X10.lt ge11) nin0)).ext E15).keep K20 (ninS (own_ne c270.lt ge15) nin0)).ext E21).keep K26 (ninS (own_ne c271.lt ge21) nin0)).ext E27).keep K30 nin0)
              have c276 := ((((((Fc14.ext E15).keep K20 (ninS (own_ne X14.lt ge15) nin0)).ext E21).keep K26 (ninS (own_ne c273.lt ge21) nin0)).ext E27).keep K30 nin0)
              have c277 := ((B10.ext E11).keep K14 (ninS (own_ne B10.lt ge11) nin0))
              have c278 := ((c277.ext E15).keep K20 (ninS (own_ne c277.lt ge15) nin0))
              have c279 := ((((((((B10.ext E11).keep K14 (ninS (own_ne B10.lt ge11) nin0)).ext E15).keep K20 (ninS (own_ne c277.lt ge15) nin0)).ext E21).keep K26 (ninS (own_ne c278.lt ge21) nin0)).ext E27).keep K30 nin0)
              have c280 := ((B14.ext E15).keep K20 (ninS (own_ne B14.lt ge15) nin0))
              have c281 := ((((((B14.ext E15).keep K20 (ninS (own_ne B14.lt ge15) nin0)).ext E21).keep K26 (ninS (own_ne c280.lt ge21) nin0)).ext E27).keep K30 nin0)
              have c282 := (Fb27_kind.keep K30 nin0)
              have c283 := (Fb27_first.keep K30 nin0)
              have c284 := (Fb27_second.keep K30 nin0)
              have c285 := ((((c271.ext E21).keep K26).ext E27).keep K30)
              have c286 := ((((c273.ext E21).keep K26).ext E27).keep K30)
              have c287 := (A27.keep K30)
              refine o_special W30 (y := (⟨"com/example/plebiscite/plebiscite/core/Constraint", "<init>", "(Lcom/example/plebiscite/plebiscite/core/Constraint$Kind;Ljava/lang/String;Ljava/lang/String;)V"⟩ : MethodName)) rfl (w41 hw) (w42 hw) (w43 hw) (by decide) (a := b27) (argsL := [(.ref gN), (.ref b7), (.ref b11)]) (CtrN.back (Wd := 1) W30 (rm19 l Z a0 hw gCS gN b27 b7 b11 t10 t14 kb10 (p0 &&& (255 : Int32)) (((p0.toUInt32 >>> ((8 : Int32) &&& 31).toUInt32).toInt32) &&& (255 : Int32)) kb14 (p1 &&& (255 : Int32)) (((p1.toUInt32 >>> ((8 : Int32) &&& 31).toUInt32).toInt32) &&& (255 : Int32)) h30 W30.old SgN_NON_COMMUTING c285 c272 c274 SgCS NgCS c275 c286 c276 c279 c281 hq43 hq56 hq169 c287 c282 gz27 c283 c284) (w43 hw) (w32 hw) (by decide) (by decide)) (by rw [hml]; rfl) (lenOf pd9 rfl) (S := [(.ref b27)]) rfl (by exact Nat.le_of_eq rfl) (pc' := 150) (hb hy at_147) rfl (cells' := 11) (slots' := 31) rfl rfl (by decide) (by decide) (wy := [b27]) (fun _ _ _ q => ⟨q.1, q.2.1⟩) (allS ⟨gz27, (Or.inr gb27)⟩ all0) (fun _ _ => trivial) ?_
              intro v288 T288 h288 lo288 W288 K288 q288
              obtain ⟨P288_0, P288_1, P288_2, rfl⟩ := q288.2.2
              show Gl _ _ _ _ _ _ _ _ [(.ref b27)]
              refine o_astore W288 (L' := #[.val (.int p0), .val (.int p1), .val (.int p2), .val (.int 0), .val (.ref b1), .val (.ref b4), .val (.ref b7), .val (.ref b11), .val (.ref b15), .val (.ref b21), .val (.ref b27), .unset, .unset]) (pc' := 152) (hb hy at_150) rfl rfl rfl ?_
              refine o_aload W288 (pc' := 154) (hb hy at_152) rfl rfl rfl ?_
              refine o_aload W288 (pc' := 156) (hb hy at_154) rfl rfl rfl ?_
              by_cases hq299 : (own_eq [(p1 &&& (255 : Int32)), (((p1.toUInt32 >>> ((8 : Int32) &&& 31).toUInt32).toInt32) &&& (255 : Int32))] [(p0 &&& (255 : Int32)), (((p0.toUInt32 >>> ((8 : Int32) &&& 31).toUInt32).toInt32) &&& (255 : Int32))]) = (0 : Int32)
              · have c300 := ((c273.ext E21).keep K26)
                have c301 := (c274.keep K288 (ninS (own_ne c300.lt ge27) nin0))
                have c302 := (c276.keep K288 (ninS (own_ne c300.lt ge27) nin0))
                have c303 := ((c280.ext E21).keep K26 (ninS (own_ne c280.lt ge21) nin0))
                have c304 := (c281.keep K288 (ninS (own_ne c303.lt ge27) nin0))
                have c305 := ((X20.ext E21).keep K26)
                have c306 := (((((Fv20.ext E21).keep K26 (ninS (own_ne X20.lt ge21) nin0)).ext E27).keep K30 nin0).keep K288 (ninS (own_ne c305.lt ge27) nin0))
                have c307 := (((((Fc20.ext E21).keep K26 (ninS (own_ne X20.lt ge21) nin0)).ext E27).keep K30 nin0).keep K288 (ninS (own_ne c305.lt ge27) nin0))
                have c308 := ((B20.ext E21).keep K26 (ninS (own_ne B20.lt ge21) nin0))
                have c309 := (((((B20.ext E21).keep K26 (ninS (own_ne B20.lt ge21) nin0)).ext E27).keep K30 nin0).keep K288 (ninS (own_ne c308.lt ge27) nin0))
                have c310 := (c286.keep K288)
                have c311 := (((c305.ext E27).keep K30).keep K288)
                have c312 := (c287.keep K288)
                refine o_virtual W288 (y := (⟨"com/example/plebiscite/plebiscite/core/Constraint", "other", "(Ljava/lang/String;)Ljava/lang/String;"⟩ : MethodName)) (z := (⟨"com/example/plebiscite/plebiscite/core/Constraint", "other", "(Ljava/lang/String;)Ljava/lang/String;"⟩ : MethodName)) (w85 hw) (w86 hw) (o_nf W288 rfl (w88 hw)) (w88 hw) (w87 hw) (by decide) c312 (argsL := [(.ref b15)]) (CtrN.back (Wd := 0) W288 (rm11 l Z a0 hw gCS b27 b15 b11 t14 kb14 (p1 &&& (255 : Int32)) (((p1.toUInt32 >>> ((8 : Int32) &&& 31).toUInt32).toInt32) &&& (255 : Int32)) t20 kb20 (p0 &&& (255 : Int32)) (((p0.toUInt32 >>> ((8 : Int32) &&& 31).toUInt32).toInt32) &&& (255 : Int32)) h288 W288.old P288_1 c310 SgCS NgCS c301 c302 c304 (own_b255 _) (own_b255 _) c311 c306 c307 c309 (own_b255 _) (own_b255 _) hq299) (w89 hw) (w32 hw) (by decide) (by decide)) (by rw [hml]; rfl) (lenOf pd11 rfl) (S := []) rfl (by exact Nat.le_of_eq rfl) (pc' := 159) (hb hy at_156) rfl (cells' := 11) (slots' := 31) rfl rfl (by decide) (by decide) (wy := []) (fun _ _ _ q => ⟨q.1, q.2.1⟩) all0 (fun _ _ => trivial) ?_
                intro v313 T313 h313 lo313 W313 K313 q313
                obtain rfl := q313.2.2
                show Gl _ _ _ _ _ _ _ _ [(.ref b11)]
                refine o_astore W313 (L' := #[.val (.int p0), .val (.int p1), .val (.int p2), .val (.int 0), .val (.ref b1), .val (.ref b4), .val (.ref b7), .val (.ref b11), .val (.ref b15), .val (.ref b21), .val (.ref b27), .val (.ref b11), .unset]) (pc' := 161) (hb hy at_159) rfl rfl rfl ?_
                refine o_aload W313 (pc' := 163) (hb hy at_161) rfl rfl rfl ?_
                refine o_aload W313 (pc' := 165) (hb hy at_163) rfl rfl rfl ?_
                have c314 := (P288_1.keep K313 nin0)
                have c315 := (c301.keep K313 nin0)
                have c316 := (c302.keep K313 nin0)
                have c317 := (c304.keep K313 nin0)
                have c318 := ((((Fv26.ext E27).keep K30 nin0).keep K288 (ninS (own_ne X26.lt ge27) nin0)).keep K313 nin0)
                have c319 := ((((Fc26.ext E27).keep K30 nin0).keep K288 (ninS (own_ne X26.lt ge27) nin0)).keep K313 nin0)
                have c320 := ((((B26.ext E27).keep K30 nin0).keep K288 (ninS (own_ne B26.lt ge27) nin0)).keep K313 nin0)
                have c321 := (P288_2.keep K313 nin0)
                have c322 := (c310.keep K313)
                have c323 := ((((X26.ext E27).keep K30).keep K288).keep K313)
                have c324 := (c312.keep K313)
                refine o_virtual W313 (y := (⟨"com/example/plebiscite/plebiscite/core/Constraint", "other", "(Ljava/lang/String;)Ljava/lang/String;"⟩ : MethodName)) (z := (⟨"com/example/plebiscite/plebiscite/core/Constraint", "other", "(Ljava/lang/String;)Ljava/lang/String;"⟩ : MethodName)) (w85 hw) (w86 hw) (o_nf W313 rfl (w88 hw)) (w88 hw) (w87 hw) (by decide) c324 (argsL := [(.ref b21)]) (CtrN.back (Wd := 0) W313 (rm10 l Z a0 hw gCS b27 b21 b11 t14 kb14 (p1 &&& (255 : Int32)) (((p1.toUInt32 >>> ((8 : Int32) &&& 31).toUInt32).toInt32) &&& (255 : Int32)) t26 kb26 b7 h313 W313.old c314 c322 SgCS NgCS c315 c316 c317 (own_b255 _) (own_b255 _) c323 c318 c319 c320 c321) (w89 hw) (w32 hw) (by decide) (by decide)) (by rw [hml]; rfl) (lenOf pd11 rfl) (S := []) rfl (by exact Nat.le_of_eq rfl) (pc' := 168) (hb hy at_165) rfl (cells' := 11) (slots' := 31) rfl rfl (by decide) (by decide) (wy := []) (fun _ _ _ q => ⟨q.1, q.2.1⟩) all0 (fun _ _ => trivial) ?_
                intro v325 T325 h325 lo325 W325 K325 q325
                obtain rfl := q325.2.2
                show Gl _ _ _ _ _ _ _ _ [(.ref b7)]
                refine o_astore W325 (L' := #[.val (.int p0), .val (.int p1), .val (.int p2), .val (.int 0), .val (.ref b1), .val (.ref b4), .val (.ref b7), .val (.ref b11), .val (.ref b15), .val (.ref b21), .val (.ref b27), .val (.ref b11), .val (.ref b7)]) (pc' := 170) (hb hy at_168) rfl rfl rfl ?_
                refine o_aload W325 (pc' := 172) (hb hy at_170) rfl rfl rfl ?_
                refine o_aload W325 (pc' := 174) (hb hy at_172) rfl rfl rfl ?_
                have c326 := (c322.keep K325)
                have c327 := (c315.keep K325 nin0)
                have c328 := (c316.keep K325 nin0)
                have c329 := (c317.keep K325 nin0)
                have ok330 : own_ok [(p1 &&& (255 : Int32)), (((p1.toUInt32 >>> ((8 : Int32) &&& 31).toUInt32).toInt32) &&& (255 : Int32))] := ok25
                have ok331 : own_ok [(p1 &&& (255 : Int32)), (((p1.toUInt32 >>> ((8 : Int32) &&& 31).toUInt32).toInt32) &&& (255 : Int32))] := ok25
                refine o_virtual W325 (y := (⟨"java/lang/String", "equals", "(Ljava/lang/Object;)Z"⟩ : MethodName)) (z := (⟨"java/lang/String", "equals", "(Ljava/lang/Object;)Z"⟩ : MethodName)) (kc := 0) (ks := 0) (Q := fun v hh L => ((v = some (.int 1) ∧ [(p1 &&& (255 : Int32)), (((p1.toUInt32 >>> ((8 : Int32) &&& 31).toUInt32).toInt32) &&& (255 : Int32))] = [(p1 &&& (255 : Int32)), (((p1.toUInt32 >>> ((8 : Int32) &&& 31).toUInt32).toInt32) &&& (255 : Int32))]) ∨ (v = some (.int 0) ∧ ¬ [(p1 &&& (255 : Int32)), (((p1.toUInt32 >>> ((8 : Int32) &&& 31).toUInt32).toInt32) &&& (255 : Int32))] = [(p1 &&& (255 : Int32)), (((p1.toUInt32 >>> ((8 : Int32) &&& 31).toUInt32).toInt32) &&& (255 : Int32))])) ∧ L = [] ∧ hh = h325) (w99 hw) (w91 hw) (o_nf W325 rfl (w93 hw)) (w93 hw) (w92 hw) (by decide) c326 (argsL := [(.ref b11)]) (StrChars.Road.eqW (W := 0) W325.2.2.2.1 (own_hE hw) (kI := 4) (w2 hw) c326 c327 c328 c329 (own_cod ok330) (own_up ok330) ok330.2 c326 c327 c328 c329 (own_cod ok331) (own_up ok331) ok331.2 (SgCS.ext W325.ox) NgCS (by decide) (by decide)) (by rw [hml]; rfl) (lenOf pd10 rfl) (S := []) rfl (by exact Nat.le_of_eq rfl) (pc' := 177) (hb hy at_174) rfl (cells' := 11) (slots' := 31) rfl rfl (by decide) (by decide) (wy := []) (fun _ _ _ q => own_same q.2) all0 (fun _ _ => trivial) ?_
                intro v332 T332 h332 lo332 W332 K332 q332
                obtain rfl := own_eqv q332.1
                show Gl _ _ _ _ _ _ _ _ [(.int (own_eq [(p1 &&& (255 : Int32)), (((p1.toUInt32 >>> ((8 : Int32) &&& 31).toUInt32).toInt32) &&& (255 : Int32))] [(p1 &&& (255 : Int32)), (((p1.toUInt32 >>> ((8 : Int32) &&& 31).toUInt32).toInt32) &&& (255 : Int32))]))]
                refine o_ifN W332 (pc' := 180) (hb hy at_177) (XT.i0_eq_f (own_eqne _)) rfl ?_
                refine o_aload W332 (pc' := 182) (hb hy at_180) rfl rfl rfl ?_
                refine o_aload W332 (pc' := 184) (hb hy at_182) rfl rfl rfl ?_
                have c333 := ((((c285.keep K288).keep K313).keep K325).keep K332)
                have c334 := ((c271.ext E21).keep K26)
                have c335 := ((((c272.keep K288 (ninS (own_ne c334.lt ge27) nin0)).keep K313 nin0).keep K325 nin0).keep K332 nin0)
                have c336 := ((((c275.keep K288 (ninS (own_ne c334.lt ge27) nin0)).keep K313 nin0).keep K325 nin0).keep K332 nin0)
                have c337 := ((c278.ext E21).keep K26 (ninS (own_ne c278.lt ge21) nin0))
                have c338 := ((((c279.keep K288 (ninS (own_ne c337.lt ge27) nin0)).keep K313 nin0).keep K325 nin0).keep K332 nin0)
                have ok339 : own_ok [(p0 &&& (255 : Int32)), (((p0.toUInt32 >>> ((8 : Int32) &&& 31).toUInt32).toInt32) &&& (255 : Int32))] := ok19
                have ok340 : own_ok [(p0 &&& (255 : Int32)), (((p0.toUInt32 >>> ((8 : Int32) &&& 31).toUInt32).toInt32) &&& (255 : Int32))] := ok19
                refine o_virtual W332 (y := (⟨"java/lang/String", "equals", "(Ljava/lang/Object;)Z"⟩ : MethodName)) (z := (⟨"java/lang/String", "equals", "(Ljava/lang/Object;)Z"⟩ : MethodName)) (kc := 0) (ks := 0) (Q := fun v hh L => ((v = some (.int 1) ∧ [(p0 &&& (255 : Int32)), (((p0.toUInt32 >>> ((8 : Int32) &&& 31).toUInt32).toInt32) &&& (255 : Int32))] = [(p0 &&& (255 : Int32)), (((p0.toUInt32 >>> ((8 : Int32) &&& 31).toUInt32).toInt32) &&& (255 : Int32))]) ∨ (v = some (.int 0) ∧ ¬ [(p0 &&& (255 : Int32)), (((p0.toUInt32 >>> ((8 : Int32) &&& 31).toUInt32).toInt32) &&& (255 : Int32))] = [(p0 &&& (255 : Int32)), (((p0.toUInt32 >>> ((8 : Int32) &&& 31).toUInt32).toInt32) &&& (255 : Int32))])) ∧ L = [] ∧ hh = h332) (w99 hw) (w91 hw) (o_nf W332 rfl (w93 hw)) (w93 hw) (w92 hw) (by decide) c333 (argsL := [(.ref b7)]) (StrChars.Road.eqW (W := 0) W332.2.2.2.1 (own_hE hw) (kI := 4) (w2 hw) c333 c335 c336 c338 (own_cod ok339) (own_up ok339) ok339.2 c333 c335 c336 c338 (own_cod ok340) (own_up ok340) ok340.2 (SgCS.ext W332.ox) NgCS (by decide) (by decide)) (by rw [hml]; rfl) (lenOf pd10 rfl) (S := []) rfl (by exact Nat.le_of_eq rfl) (pc' := 187) (hb hy at_184) rfl (cells' := 11) (slots' := 31) rfl rfl (by decide) (by decide) (wy := []) (fun _ _ _ q => own_same q.2) all0 (fun _ _ => trivial) ?_
                intro v341 T341 h341 lo341 W341 K341 q341
                obtain rfl := own_eqv q341.1
                show Gl _ _ _ _ _ _ _ _ [(.int (own_eq [(p0 &&& (255 : Int32)), (((p0.toUInt32 >>> ((8 : Int32) &&& 31).toUInt32).toInt32) &&& (255 : Int32))] [(p0 &&& (255 : Int32)), (((p0.toUInt32 >>> ((8 : Int32) &&& 31).toUInt32).toInt32) &&& (255 : Int32))]))]
                refine o_ifN W341 (pc' := 190) (hb hy at_187) (XT.i0_eq_f (own_eqne _)) rfl ?_
                refine o_iconst W341 (v := 1) (pc' := 191) (hb hy at_190) rfl rfl ?_
                refine o_goto W341 (pc' := 195) (hb hy at_191) (by decide) rfl ?_
                exact o_retN W341 hlk (t := .boolean) hret (by simp) (z' := (1 : Int32)) (by decide) (hb hy at_195) (by decide) (by decide) rfl
              · have c342 := ((c273.ext E21).keep K26)
                have c343 := (c274.keep K288 (ninS (own_ne c342.lt ge27) nin0))
                have c344 := (c276.keep K288 (ninS (own_ne c342.lt ge27) nin0))
                have c345 := ((c280.ext E21).keep K26 (ninS (own_ne c280.lt ge21) nin0))
                have c346 := (c281.keep K288 (ninS (own_ne c345.lt ge27) nin0))
                have c347 := ((X20.ext E21).keep K26)
                have c348 := (((((Fv20.ext E21).keep K26 (ninS (own_ne X20.lt ge21) nin0)).ext E27).keep K30 nin0).keep K288 (ninS (own_ne c347.lt ge27) nin0))
                have c349 := (((((Fc20.ext E21).keep K26 (ninS (own_ne X20.lt ge21) nin0)).ext E27).keep K30 nin0).keep K288 (ninS (own_ne c347.lt ge27) nin0))
                have c350 := ((B20.ext E21).keep K26 (ninS (own_ne B20.lt ge21) nin0))
                have c351 := (((((B20.ext E21).keep K26 (ninS (own_ne B20.lt ge21) nin0)).ext E27).keep K30 nin0).keep K288 (ninS (own_ne c350.lt ge27) nin0))
                have c352 := (c286.keep K288)
                have c353 := (((c347.ext E27).keep K30).keep K288)
                have c354 := (c287.keep K288)
                refine o_virtual W288 (y := (⟨"com/example/plebiscite/plebiscite/core/Constraint", "other", "(Ljava/lang/String;)Ljava/lang/String;"⟩ : MethodName)) (z := (⟨"com/example/plebiscite/plebiscite/core/Constraint", "other", "(Ljava/lang/String;)Ljava/lang/String;"⟩ : MethodName)) (w85 hw) (w86 hw) (o_nf W288 rfl (w88 hw)) (w88 hw) (w87 hw) (by decide) c354 (argsL := [(.ref b15)]) (CtrN.back (Wd := 0) W288 (rm12 l Z a0 hw gCS b27 b15 b11 t14 kb14 (p1 &&& (255 : Int32)) (((p1.toUInt32 >>> ((8 : Int32) &&& 31).toUInt32).toInt32) &&& (255 : Int32)) t20 kb20 (p0 &&& (255 : Int32)) (((p0.toUInt32 >>> ((8 : Int32) &&& 31).toUInt32).toInt32) &&& (255 : Int32)) b7 h288 W288.old P288_1 c352 SgCS NgCS c343 c344 c346 (own_b255 _) (own_b255 _) c353 c348 c349 c351 (own_b255 _) (own_b255 _) hq299 P288_2) (w89 hw) (w32 hw) (by decide) (by decide)) (by rw [hml]; rfl) (lenOf pd11 rfl) (S := []) rfl (by exact Nat.le_of_eq rfl) (pc' := 159) (hb hy at_156) rfl (cells' := 11) (slots' := 31) rfl rfl (by decide) (by decide) (wy := []) (fun _ _ _ q => ⟨q.1, q.2.1⟩) all0 (fun _ _ => trivial) ?_
                intro v355 T355 h355 lo355 W355 K355 q355
                obtain rfl := q355.2.2
                show Gl _ _ _ _ _ _ _ _ [(.ref b7)]
                refine o_astore W355 (L' := #[.val (.int p0), .val (.int p1), .val (.int p2), .val (.int 0), .val (.ref b1), .val (.ref b4), .val (.ref b7), .val (.ref b11), .val (.ref b15), .val (.ref b21), .val (.ref b27), .val (.ref b7), .unset]) (pc' := 161) (hb hy at_159) rfl rfl rfl ?_
                refine o_aload W355 (pc' := 163) (hb hy at_161) rfl rfl rfl ?_
                refine o_aload W355 (pc' := 165) (hb hy at_163) rfl rfl rfl ?_
                have c356 := (P288_1.keep K355 nin0)
                have c357 := (c343.keep K355 nin0)
                have c358 := (c344.keep K355 nin0)
                have c359 := (c346.keep K355 nin0)
                have c360 := ((((Fv26.ext E27).keep K30 nin0).keep K288 (ninS (own_ne X26.lt ge27) nin0)).keep K355 nin0)
                have c361 := ((((Fc26.ext E27).keep K30 nin0).keep K288 (ninS (own_ne X26.lt ge27) nin0)).keep K355 nin0)
                have c362 := ((((B26.ext E27).keep K30 nin0).keep K288 (ninS (own_ne B26.lt ge27) nin0)).keep K355 nin0)
                have c363 := (P288_2.keep K355 nin0)
                have c364 := (c352.keep K355)
                have c365 := ((((X26.ext E27).keep K30).keep K288).keep K355)
                have c366 := (c354.keep K355)
                refine o_virtual W355 (y := (⟨"com/example/plebiscite/plebiscite/core/Constraint", "other", "(Ljava/lang/String;)Ljava/lang/String;"⟩ : MethodName)) (z := (⟨"com/example/plebiscite/plebiscite/core/Constraint", "other", "(Ljava/lang/String;)Ljava/lang/String;"⟩ : MethodName)) (w85 hw) (w86 hw) (o_nf W355 rfl (w88 hw)) (w88 hw) (w87 hw) (by decide) c366 (argsL := [(.ref b21)]) (CtrN.back (Wd := 0) W355 (rm10 l Z a0 hw gCS b27 b21 b11 t14 kb14 (p1 &&& (255 : Int32)) (((p1.toUInt32 >>> ((8 : Int32) &&& 31).toUInt32).toInt32) &&& (255 : Int32)) t26 kb26 b7 h355 W355.old c356 c364 SgCS NgCS c357 c358 c359 (own_b255 _) (own_b255 _) c365 c360 c361 c362 c363) (w89 hw) (w32 hw) (by decide) (by decide)) (by rw [hml]; rfl) (lenOf pd11 rfl) (S := []) rfl (by exact Nat.le_of_eq rfl) (pc' := 168) (hb hy at_165) rfl (cells' := 11) (slots' := 31) rfl rfl (by decide) (by decide) (wy := []) (fun _ _ _ q => ⟨q.1, q.2.1⟩) all0 (fun _ _ => trivial) ?_
                intro v367 T367 h367 lo367 W367 K367 q367
                obtain rfl := q367.2.2
                show Gl _ _ _ _ _ _ _ _ [(.ref b7)]
                refine o_astore W367 (L' := #[.val (.int p0), .val (.int p1), .val (.int p2), .val (.int 0), .val (.ref b1), .val (.ref b4), .val (.ref b7), .val (.ref b11), .val (.ref b15), .val (.ref b21), .val (.ref b27), .val (.ref b7), .val (.ref b7)]) (pc' := 170) (hb hy at_168) rfl rfl rfl ?_
                refine o_aload W367 (pc' := 172) (hb hy at_170) rfl rfl rfl ?_
                refine o_aload W367 (pc' := 174) (hb hy at_172) rfl rfl rfl ?_
                have c368 := (((c285.keep K288).keep K355).keep K367)
                have c369 := ((c271.ext E21).keep K26)
                have c370 := (((c272.keep K288 (ninS (own_ne c369.lt ge27) nin0)).keep K355 nin0).keep K367 nin0)
                have c371 := (((c275.keep K288 (ninS (own_ne c369.lt ge27) nin0)).keep K355 nin0).keep K367 nin0)
                have c372 := ((c278.ext E21).keep K26 (ninS (own_ne c278.lt ge21) nin0))
                have c373 := (((c279.keep K288 (ninS (own_ne c372.lt ge27) nin0)).keep K355 nin0).keep K367 nin0)
                have c374 := (c364.keep K367)
                have c375 := (c357.keep K367 nin0)
                have c376 := (c358.keep K367 nin0)
                have c377 := (c359.keep K367 nin0)
                have ok378 : own_ok [(p0 &&& (255 : Int32)), (((p0.toUInt32 >>> ((8 : Int32) &&& 31).toUInt32).toInt32) &&& (255 : Int32))] := ok19
                have ok379 : own_ok [(p1 &&& (255 : Int32)), (((p1.toUInt32 >>> ((8 : Int32) &&& 31).toUInt32).toInt32) &&& (255 : Int32))] := ok25
                refine o_virtual W367 (y := (⟨"java/lang/String", "equals", "(Ljava/lang/Object;)Z"⟩ : MethodName)) (z := (⟨"java/lang/String", "equals", "(Ljava/lang/Object;)Z"⟩ : MethodName)) (kc := 0) (ks := 0) (Q := fun v hh L => ((v = some (.int 1) ∧ [(p0 &&& (255 : Int32)), (((p0.toUInt32 >>> ((8 : Int32) &&& 31).toUInt32).toInt32) &&& (255 : Int32))] = [(p1 &&& (255 : Int32)), (((p1.toUInt32 >>> ((8 : Int32) &&& 31).toUInt32).toInt32) &&& (255 : Int32))]) ∨ (v = some (.int 0) ∧ ¬ [(p0 &&& (255 : Int32)), (((p0.toUInt32 >>> ((8 : Int32) &&& 31).toUInt32).toInt32) &&& (255 : Int32))] = [(p1 &&& (255 : Int32)), (((p1.toUInt32 >>> ((8 : Int32) &&& 31).toUInt32).toInt32) &&& (255 : Int32))])) ∧ L = [] ∧ hh = h367) (w99 hw) (w91 hw) (o_nf W367 rfl (w93 hw)) (w93 hw) (w92 hw) (by decide) c368 (argsL := [(.ref b11)]) (StrChars.Road.eqW (W := 0) W367.2.2.2.1 (own_hE hw) (kI := 4) (w2 hw) c368 c370 c371 c373 (own_cod ok378) (own_up ok378) ok378.2 c374 c375 c376 c377 (own_cod ok379) (own_up ok379) ok379.2 (SgCS.ext W367.ox) NgCS (by decide) (by decide)) (by rw [hml]; rfl) (lenOf pd10 rfl) (S := []) rfl (by exact Nat.le_of_eq rfl) (pc' := 177) (hb hy at_174) rfl (cells' := 11) (slots' := 31) rfl rfl (by decide) (by decide) (wy := []) (fun _ _ _ q => own_same q.2) all0 (fun _ _ => trivial) ?_
                intro v380 T380 h380 lo380 W380 K380 q380
                obtain rfl := own_eqv q380.1
                show Gl _ _ _ _ _ _ _ _ [(.int (own_eq [(p0 &&& (255 : Int32)), (((p0.toUInt32 >>> ((8 : Int32) &&& 31).toUInt32).toInt32) &&& (255 : Int32))] [(p1 &&& (255 : Int32)), (((p1.toUInt32 >>> ((8 : Int32) &&& 31).toUInt32).toInt32) &&& (255 : Int32))]))]
                refine o_ifN W380 (pc' := 180) (hb hy at_177) (XT.i0_eq_f (fun q => hq299 ((own_eq_symm _ _).trans q))) rfl ?_
                refine o_aload W380 (pc' := 182) (hb hy at_180) rfl rfl rfl ?_
                refine o_aload W380 (pc' := 184) (hb hy at_182) rfl rfl rfl ?_
                have c381 := (c368.keep K380)
                have c382 := (c370.keep K380 nin0)
                have c383 := (c371.keep K380 nin0)
                have c384 := (c373.keep K380 nin0)
                have ok385 : own_ok [(p0 &&& (255 : Int32)), (((p0.toUInt32 >>> ((8 : Int32) &&& 31).toUInt32).toInt32) &&& (255 : Int32))] := ok19
                have ok386 : own_ok [(p0 &&& (255 : Int32)), (((p0.toUInt32 >>> ((8 : Int32) &&& 31).toUInt32).toInt32) &&& (255 : Int32))] := ok19
                refine o_virtual W380 (y := (⟨"java/lang/String", "equals", "(Ljava/lang/Object;)Z"⟩ : MethodName)) (z := (⟨"java/lang/String", "equals", "(Ljava/lang/Object;)Z"⟩ : MethodName)) (kc := 0) (ks := 0) (Q := fun v hh L => ((v = some (.int 1) ∧ [(p0 &&& (255 : Int32)), (((p0.toUInt32 >>> ((8 : Int32) &&& 31).toUInt32).toInt32) &&& (255 : Int32))] = [(p0 &&& (255 : Int32)), (((p0.toUInt32 >>> ((8 : Int32) &&& 31).toUInt32).toInt32) &&& (255 : Int32))]) ∨ (v = some (.int 0) ∧ ¬ [(p0 &&& (255 : Int32)), (((p0.toUInt32 >>> ((8 : Int32) &&& 31).toUInt32).toInt32) &&& (255 : Int32))] = [(p0 &&& (255 : Int32)), (((p0.toUInt32 >>> ((8 : Int32) &&& 31).toUInt32).toInt32) &&& (255 : Int32))])) ∧ L = [] ∧ hh = h380) (w99 hw) (w91 hw) (o_nf W380 rfl (w93 hw)) (w93 hw) (w92 hw) (by decide) c381 (argsL := [(.ref b7)]) (StrChars.Road.eqW (W := 0) W380.2.2.2.1 (own_hE hw) (kI := 4) (w2 hw) c381 c382 c383 c384 (own_cod ok385) (own_up ok385) ok385.2 c381 c382 c383 c384 (own_cod ok386) (own_up ok386) ok386.2 (SgCS.ext W380.ox) NgCS (by decide) (by decide)) (by rw [hml]; rfl) (lenOf pd10 rfl) (S := []) rfl (by exact Nat.le_of_eq rfl) (pc' := 187) (hb hy at_184) rfl (cells' := 11) (slots' := 31) rfl rfl (by decide) (by decide) (wy := []) (fun _ _ _ q => own_same q.2) all0 (fun _ _ => trivial) ?_
                intro v387 T387 h387 lo387 W387 K387 q387
                obtain rfl := own_eqv q387.1
                show Gl _ _ _ _ _ _ _ _ [(.int (own_eq [(p0 &&& (255 : Int32)), (((p0.toUInt32 >>> ((8 : Int32) &&& 31).toUInt32).toInt32) &&& (255 : Int32))] [(p0 &&& (255 : Int32)), (((p0.toUInt32 >>> ((8 : Int32) &&& 31).toUInt32).toInt32) &&& (255 : Int32))]))]
                refine o_ifN W387 (pc' := 190) (hb hy at_187) (XT.i0_eq_f (own_eqne _)) rfl ?_
                refine o_iconst W387 (v := 1) (pc' := 191) (hb hy at_190) rfl rfl ?_
                refine o_goto W387 (pc' := 195) (hb hy at_191) (by decide) rfl ?_
                exact o_retN W387 hlk (t := .boolean) hret (by simp) (z' := (1 : Int32)) (by decide) (hb hy at_195) (by decide) (by decide) rfl
        · rcases (Classical.em ((0 : Int32) < (((StrChars.lo8 (p0 &&& (255 : Int32))) &&& (255 : Int32)) - ((StrChars.lo8 (p1 &&& (255 : Int32))) &&& (255 : Int32))))).symm with hq400 | hq400
          · have c401 := ((X10.ext E11).keep K14)
            have c402 := ((c401.ext E15).keep K20)
            have c403 := ((((((((Fv10.ext E11).keep K14 (ninS (own_ne X10.lt ge11) nin0)).ext E15).keep K20 (ninS (own_ne c401.lt ge15) nin0)).ext E21).keep K26 (ninS (own_ne c402.lt ge21) nin0)).ext E27).keep K30 nin0)
            have c404 := ((X14.ext E15).keep K20)
            have c405 := ((((((Fv14.ext E15).keep K20 (ninS (own_ne X14.lt ge15) nin0)).ext E21).keep K26 (ninS (own_ne c404.lt ge21) nin0)).ext E27).keep K30 nin0)
            have c406 := ((((((((Fc10.ext E11).keep K14 (ninS (own_ne X10.lt ge11) nin0)).ext E15).keep K20 (ninS (own_ne c401.lt ge15) nin0)).ext E21).keep K26 (ninS (own_ne c402.lt ge21) nin0)).ext E27).keep K30 nin0)
            have c407 := ((((((Fc14.ext E15).keep K20 (ninS (own_ne X14.lt ge15) nin0)).ext E21).keep K26 (ninS (own_ne c404.lt ge21) nin0)).ext E27).keep K30 nin0)
            have c408 := ((B10.ext E11).keep K14 (ninS (own_ne B10.lt ge11) nin0))
            have c409 := ((c408.ext E15).keep K20 (ninS (own_ne c408.lt ge15) nin0))
            have c410 := ((((((((B10.ext E11).keep K14 (ninS (own_ne B10.lt ge11) nin0)).ext E15).keep K20 (ninS (own_ne c408.lt ge15) nin0)).ext E21).keep K26 (ninS (own_ne c409.lt ge21) nin0)).ext E27).keep K30 nin0)
            have c411 := ((B14.ext E15).keep K20 (ninS (own_ne B14.lt ge15) nin0))
            have c412 := ((((((B14.ext E15).keep K20 (ninS (own_ne B14.lt ge15) nin0)).ext E21).keep K26 (ninS (own_ne c411.lt ge21) nin0)).ext E27).keep K30 nin0)
            have c413 := (Fb27_kind.keep K30 nin0)
            have c414 := (Fb27_first.keep K30 nin0)
            have c415 := (Fb27_second.keep K30 nin0)
            have c416 := ((((c402.ext E21).keep K26).ext E27).keep K30)
            have c417 := ((((c404.ext E21).keep K26).ext E27).keep K30)
            have c418 := (A27.keep K30)
            refine o_special W30 (y := (⟨"com/example/plebiscite/plebiscite/core/Constraint", "<init>", "(Lcom/example/plebiscite/plebiscite/core/Constraint$Kind;Ljava/lang/String;Ljava/lang/String;)V"⟩ : MethodName)) rfl (w41 hw) (w42 hw) (w43 hw) (by decide) (a := b27) (argsL := [(.ref gN), (.ref b7), (.ref b11)]) (CtrN.back (Wd := 1) W30 (rm25 l Z a0 hw gCS gN b27 b7 b11 t10 t14 kb10 (p0 &&& (255 : Int32)) (((p0.toUInt32 >>> ((8 : Int32) &&& 31).toUInt32).toInt32) &&& (255 : Int32)) kb14 (p1 &&& (255 : Int32)) (((p1.toUInt32 >>> ((8 : Int32) &&& 31).toUInt32).toInt32) &&& (255 : Int32)) h30 W30.old SgN_NON_COMMUTING c416 c403 c405 SgCS NgCS c406 c417 c407 c410 c412 hq43 hq400 c418 c413 gz27 c414 c415) (w43 hw) (w32 hw) (by decide) (by decide)) (by rw [hml]; rfl) (lenOf pd9 rfl) (S := [(.ref b27)]) rfl (by exact Nat.le_of_eq rfl) (pc' := 150) (hb hy at_147) rfl (cells' := 11) (slots' := 31) rfl rfl (by decide) (by decide) (wy := [b27]) (fun _ _ _ q => ⟨q.1, q.2.1⟩) (allS ⟨gz27, (Or.inr gb27)⟩ all0) (fun _ _ => trivial) ?_
            intro v419 T419 h419 lo419 W419 K419 q419
            obtain ⟨P419_0, P419_1, P419_2, rfl⟩ := q419.2.2
            show Gl _ _ _ _ _ _ _ _ [(.ref b27)]
            refine o_astore W419 (L' := #[.val (.int p0), .val (.int p1), .val (.int p2), .val (.int 0), .val (.ref b1), .val (.ref b4), .val (.ref b7), .val (.ref b11), .val (.ref b15), .val (.ref b21), .val (.ref b27), .unset, .unset]) (pc' := 152) (hb hy at_150) rfl rfl rfl ?_
            refine o_aload W419 (pc' := 154) (hb hy at_152) rfl rfl rfl ?_
            refine o_aload W419 (pc' := 156) (hb hy at_154) rfl rfl rfl ?_
            have c420 := ((c402.ext E21).keep K26)
            have c421 := (c403.keep K419 (ninS (own_ne c420.lt ge27) nin0))
            have c422 := (c406.keep K419 (ninS (own_ne c420.lt ge27) nin0))
            have c423 := ((c409.ext E21).keep K26 (ninS (own_ne c409.lt ge21) nin0))
            have c424 := (c410.keep K419 (ninS (own_ne c423.lt ge27) nin0))
            have c425 := ((X20.ext E21).keep K26)
            have c426 := (((((Fv20.ext E21).keep K26 (ninS (own_ne X20.lt ge21) nin0)).ext E27).keep K30 nin0).keep K419 (ninS (own_ne c425.lt ge27) nin0))
            have c427 := (((((Fc20.ext E21).keep K26 (ninS (own_ne X20.lt ge21) nin0)).ext E27).keep K30 nin0).keep K419 (ninS (own_ne c425.lt ge27) nin0))
            have c428 := ((B20.ext E21).keep K26 (ninS (own_ne B20.lt ge21) nin0))
            have c429 := (((((B20.ext E21).keep K26 (ninS (own_ne B20.lt ge21) nin0)).ext E27).keep K30 nin0).keep K419 (ninS (own_ne c428.lt ge27) nin0))
            have c430 := (c416.keep K419)
            have c431 := (((c425.ext E27).keep K30).keep K419)
            have c432 := (c418.keep K419)
            refine o_virtual W419 (y := (⟨"com/example/plebiscite/plebiscite/core/Constraint", "other", "(Ljava/lang/String;)Ljava/lang/String;"⟩ : MethodName)) (z := (⟨"com/example/plebiscite/plebiscite/core/Constraint", "other", "(Ljava/lang/String;)Ljava/lang/String;"⟩ : MethodName)) (w85 hw) (w86 hw) (o_nf W419 rfl (w88 hw)) (w88 hw) (w87 hw) (by decide) c432 (argsL := [(.ref b15)]) (CtrN.back (Wd := 0) W419 (rm10 l Z a0 hw gCS b27 b15 b7 t10 kb10 (p0 &&& (255 : Int32)) (((p0.toUInt32 >>> ((8 : Int32) &&& 31).toUInt32).toInt32) &&& (255 : Int32)) t20 kb20 b11 h419 W419.old P419_1 c430 SgCS NgCS c421 c422 c424 (own_b255 _) (own_b255 _) c431 c426 c427 c429 P419_2) (w89 hw) (w32 hw) (by decide) (by decide)) (by rw [hml]; rfl) (lenOf pd11 rfl) (S := []) rfl (by exact Nat.le_of_eq rfl) (pc' := 159) (hb hy at_156) rfl (cells' := 11) (slots' := 31) rfl rfl (by decide) (by decide) (wy := []) (fun _ _ _ q => ⟨q.1, q.2.1⟩) all0 (fun _ _ => trivial) ?_
            intro v433 T433 h433 lo433 W433 K433 q433
            obtain rfl := q433.2.2
            show Gl _ _ _ _ _ _ _ _ [(.ref b11)]
            refine o_astore W433 (L' := #[.val (.int p0), .val (.int p1), .val (.int p2), .val (.int 0), .val (.ref b1), .val (.ref b4), .val (.ref b7), .val (.ref b11), .val (.ref b15), .val (.ref b21), .val (.ref b27), .val (.ref b11), .unset]) (pc' := 161) (hb hy at_159) rfl rfl rfl ?_
            refine o_aload W433 (pc' := 163) (hb hy at_161) rfl rfl rfl ?_
            refine o_aload W433 (pc' := 165) (hb hy at_163) rfl rfl rfl ?_
            by_cases hq441 : (own_eq [(p0 &&& (255 : Int32)), (((p0.toUInt32 >>> ((8 : Int32) &&& 31).toUInt32).toInt32) &&& (255 : Int32))] [(p1 &&& (255 : Int32)), (((p1.toUInt32 >>> ((8 : Int32) &&& 31).toUInt32).toInt32) &&& (255 : Int32))]) = (0 : Int32)
            · have c442 := (P419_1.keep K433 nin0)
              have c443 := (c421.keep K433 nin0)
              have c444 := (c422.keep K433 nin0)
              have c445 := (c424.keep K433 nin0)
              have c446 := ((((Fv26.ext E27).keep K30 nin0).keep K419 (ninS (own_ne X26.lt ge27) nin0)).keep K433 nin0)
              have c447 := ((((Fc26.ext E27).keep K30 nin0).keep K419 (ninS (own_ne X26.lt ge27) nin0)).keep K433 nin0)
              have c448 := ((((B26.ext E27).keep K30 nin0).keep K419 (ninS (own_ne B26.lt ge27) nin0)).keep K433 nin0)
              have c449 := (c430.keep K433)
              have c450 := ((((X26.ext E27).keep K30).keep K419).keep K433)
              have c451 := (c432.keep K433)
              refine o_virtual W433 (y := (⟨"com/example/plebiscite/plebiscite/core/Constraint", "other", "(Ljava/lang/String;)Ljava/lang/String;"⟩ : MethodName)) (z := (⟨"com/example/plebiscite/plebiscite/core/Constraint", "other", "(Ljava/lang/String;)Ljava/lang/String;"⟩ : MethodName)) (w85 hw) (w86 hw) (o_nf W433 rfl (w88 hw)) (w88 hw) (w87 hw) (by decide) c451 (argsL := [(.ref b21)]) (CtrN.back (Wd := 0) W433 (rm11 l Z a0 hw gCS b27 b21 b7 t10 kb10 (p0 &&& (255 : Int32)) (((p0.toUInt32 >>> ((8 : Int32) &&& 31).toUInt32).toInt32) &&& (255 : Int32)) t26 kb26 (p1 &&& (255 : Int32)) (((p1.toUInt32 >>> ((8 : Int32) &&& 31).toUInt32).toInt32) &&& (255 : Int32)) h433 W433.old c442 c449 SgCS NgCS c443 c444 c445 (own_b255 _) (own_b255 _) c450 c446 c447 c448 (own_b255 _) (own_b255 _) hq441) (w89 hw) (w32 hw) (by decide) (by decide)) (by rw [hml]; rfl) (lenOf pd11 rfl) (S := []) rfl (by exact Nat.le_of_eq rfl) (pc' := 168) (hb hy at_165) rfl (cells' := 11) (slots' := 31) rfl rfl (by decide) (by decide) (wy := []) (fun _ _ _ q => ⟨q.1, q.2.1⟩) all0 (fun _ _ => trivial) ?_
              intro v452 T452 h452 lo452 W452 K452 q452
              obtain rfl := q452.2.2
              show Gl _ _ _ _ _ _ _ _ [(.ref b7)]
              refine o_astore W452 (L' := #[.val (.int p0), .val (.int p1), .val (.int p2), .val (.int 0), .val (.ref b1), .val (.ref b4), .val (.ref b7), .val (.ref b11), .val (.ref b15), .val (.ref b21), .val (.ref b27), .val (.ref b11), .val (.ref b7)]) (pc' := 170) (hb hy at_168) rfl rfl rfl ?_
              refine o_aload W452 (pc' := 172) (hb hy at_170) rfl rfl rfl ?_
              refine o_aload W452 (pc' := 174) (hb hy at_172) rfl rfl rfl ?_
              have c453 := (((c417.keep K419).keep K433).keep K452)
              have c454 := ((c404.ext E21).keep K26)
              have c455 := (((c405.keep K419 (ninS (own_ne c454.lt ge27) nin0)).keep K433 nin0).keep K452 nin0)
              have c456 := (((c407.keep K419 (ninS (own_ne c454.lt ge27) nin0)).keep K433 nin0).keep K452 nin0)
              have c457 := ((c411.ext E21).keep K26 (ninS (own_ne c411.lt ge21) nin0))
              have c458 := (((c412.keep K419 (ninS (own_ne c457.lt ge27) nin0)).keep K433 nin0).keep K452 nin0)
              have ok459 : own_ok [(p1 &&& (255 : Int32)), (((p1.toUInt32 >>> ((8 : Int32) &&& 31).toUInt32).toInt32) &&& (255 : Int32))] := ok25
              have ok460 : own_ok [(p1 &&& (255 : Int32)), (((p1.toUInt32 >>> ((8 : Int32) &&& 31).toUInt32).toInt32) &&& (255 : Int32))] := ok25
              refine o_virtual W452 (y := (⟨"java/lang/String", "equals", "(Ljava/lang/Object;)Z"⟩ : MethodName)) (z := (⟨"java/lang/String", "equals", "(Ljava/lang/Object;)Z"⟩ : MethodName)) (kc := 0) (ks := 0) (Q := fun v hh L => ((v = some (.int 1) ∧ [(p1 &&& (255 : Int32)), (((p1.toUInt32 >>> ((8 : Int32) &&& 31).toUInt32).toInt32) &&& (255 : Int32))] = [(p1 &&& (255 : Int32)), (((p1.toUInt32 >>> ((8 : Int32) &&& 31).toUInt32).toInt32) &&& (255 : Int32))]) ∨ (v = some (.int 0) ∧ ¬ [(p1 &&& (255 : Int32)), (((p1.toUInt32 >>> ((8 : Int32) &&& 31).toUInt32).toInt32) &&& (255 : Int32))] = [(p1 &&& (255 : Int32)), (((p1.toUInt32 >>> ((8 : Int32) &&& 31).toUInt32).toInt32) &&& (255 : Int32))])) ∧ L = [] ∧ hh = h452) (w99 hw) (w91 hw) (o_nf W452 rfl (w93 hw)) (w93 hw) (w92 hw) (by decide) c453 (argsL := [(.ref b11)]) (StrChars.Road.eqW (W := 0) W452.2.2.2.1 (own_hE hw) (kI := 4) (w2 hw) c453 c455 c456 c458 (own_cod ok459) (own_up ok459) ok459.2 c453 c455 c456 c458 (own_cod ok460) (own_up ok460) ok460.2 (SgCS.ext W452.ox) NgCS (by decide) (by decide)) (by rw [hml]; rfl) (lenOf pd10 rfl) (S := []) rfl (by exact Nat.le_of_eq rfl) (pc' := 177) (hb hy at_174) rfl (cells' := 11) (slots' := 31) rfl rfl (by decide) (by decide) (wy := []) (fun _ _ _ q => own_same q.2) all0 (fun _ _ => trivial) ?_
              intro v461 T461 h461 lo461 W461 K461 q461
              obtain rfl := own_eqv q461.1
              show Gl _ _ _ _ _ _ _ _ [(.int (own_eq [(p1 &&& (255 : Int32)), (((p1.toUInt32 >>> ((8 : Int32) &&& 31).toUInt32).toInt32) &&& (255 : Int32))] [(p1 &&& (255 : Int32)), (((p1.toUInt32 >>> ((8 : Int32) &&& 31).toUInt32).toInt32) &&& (255 : Int32))]))]
              refine o_ifN W461 (pc' := 180) (hb hy at_177) (XT.i0_eq_f (own_eqne _)) rfl ?_
              refine o_aload W461 (pc' := 182) (hb hy at_180) rfl rfl rfl ?_
              refine o_aload W461 (pc' := 184) (hb hy at_182) rfl rfl rfl ?_
              have c462 := ((c449.keep K452).keep K461)
              have c463 := ((c443.keep K452 nin0).keep K461 nin0)
              have c464 := ((c444.keep K452 nin0).keep K461 nin0)
              have c465 := ((c445.keep K452 nin0).keep K461 nin0)
              have ok466 : own_ok [(p0 &&& (255 : Int32)), (((p0.toUInt32 >>> ((8 : Int32) &&& 31).toUInt32).toInt32) &&& (255 : Int32))] := ok19
              have ok467 : own_ok [(p0 &&& (255 : Int32)), (((p0.toUInt32 >>> ((8 : Int32) &&& 31).toUInt32).toInt32) &&& (255 : Int32))] := ok19
              refine o_virtual W461 (y := (⟨"java/lang/String", "equals", "(Ljava/lang/Object;)Z"⟩ : MethodName)) (z := (⟨"java/lang/String", "equals", "(Ljava/lang/Object;)Z"⟩ : MethodName)) (kc := 0) (ks := 0) (Q := fun v hh L => ((v = some (.int 1) ∧ [(p0 &&& (255 : Int32)), (((p0.toUInt32 >>> ((8 : Int32) &&& 31).toUInt32).toInt32) &&& (255 : Int32))] = [(p0 &&& (255 : Int32)), (((p0.toUInt32 >>> ((8 : Int32) &&& 31).toUInt32).toInt32) &&& (255 : Int32))]) ∨ (v = some (.int 0) ∧ ¬ [(p0 &&& (255 : Int32)), (((p0.toUInt32 >>> ((8 : Int32) &&& 31).toUInt32).toInt32) &&& (255 : Int32))] = [(p0 &&& (255 : Int32)), (((p0.toUInt32 >>> ((8 : Int32) &&& 31).toUInt32).toInt32) &&& (255 : Int32))])) ∧ L = [] ∧ hh = h461) (w99 hw) (w91 hw) (o_nf W461 rfl (w93 hw)) (w93 hw) (w92 hw) (by decide) c462 (argsL := [(.ref b7)]) (StrChars.Road.eqW (W := 0) W461.2.2.2.1 (own_hE hw) (kI := 4) (w2 hw) c462 c463 c464 c465 (own_cod ok466) (own_up ok466) ok466.2 c462 c463 c464 c465 (own_cod ok467) (own_up ok467) ok467.2 (SgCS.ext W461.ox) NgCS (by decide) (by decide)) (by rw [hml]; rfl) (lenOf pd10 rfl) (S := []) rfl (by exact Nat.le_of_eq rfl) (pc' := 187) (hb hy at_184) rfl (cells' := 11) (slots' := 31) rfl rfl (by decide) (by decide) (wy := []) (fun _ _ _ q => own_same q.2) all0 (fun _ _ => trivial) ?_
              intro v468 T468 h468 lo468 W468 K468 q468
              obtain rfl := own_eqv q468.1
              show Gl _ _ _ _ _ _ _ _ [(.int (own_eq [(p0 &&& (255 : Int32)), (((p0.toUInt32 >>> ((8 : Int32) &&& 31).toUInt32).toInt32) &&& (255 : Int32))] [(p0 &&& (255 : Int32)), (((p0.toUInt32 >>> ((8 : Int32) &&& 31).toUInt32).toInt32) &&& (255 : Int32))]))]
              refine o_ifN W468 (pc' := 190) (hb hy at_187) (XT.i0_eq_f (own_eqne _)) rfl ?_
              refine o_iconst W468 (v := 1) (pc' := 191) (hb hy at_190) rfl rfl ?_
              refine o_goto W468 (pc' := 195) (hb hy at_191) (by decide) rfl ?_
              exact o_retN W468 hlk (t := .boolean) hret (by simp) (z' := (1 : Int32)) (by decide) (hb hy at_195) (by decide) (by decide) rfl
            · have c469 := (P419_1.keep K433 nin0)
              have c470 := (c421.keep K433 nin0)
              have c471 := (c422.keep K433 nin0)
              have c472 := (c424.keep K433 nin0)
              have c473 := ((((Fv26.ext E27).keep K30 nin0).keep K419 (ninS (own_ne X26.lt ge27) nin0)).keep K433 nin0)
              have c474 := ((((Fc26.ext E27).keep K30 nin0).keep K419 (ninS (own_ne X26.lt ge27) nin0)).keep K433 nin0)
              have c475 := ((((B26.ext E27).keep K30 nin0).keep K419 (ninS (own_ne B26.lt ge27) nin0)).keep K433 nin0)
              have c476 := (P419_2.keep K433 nin0)
              have c477 := (c430.keep K433)
              have c478 := ((((X26.ext E27).keep K30).keep K419).keep K433)
              have c479 := (c432.keep K433)
              refine o_virtual W433 (y := (⟨"com/example/plebiscite/plebiscite/core/Constraint", "other", "(Ljava/lang/String;)Ljava/lang/String;"⟩ : MethodName)) (z := (⟨"com/example/plebiscite/plebiscite/core/Constraint", "other", "(Ljava/lang/String;)Ljava/lang/String;"⟩ : MethodName)) (w85 hw) (w86 hw) (o_nf W433 rfl (w88 hw)) (w88 hw) (w87 hw) (by decide) c479 (argsL := [(.ref b21)]) (CtrN.back (Wd := 0) W433 (rm12 l Z a0 hw gCS b27 b21 b7 t10 kb10 (p0 &&& (255 : Int32)) (((p0.toUInt32 >>> ((8 : Int32) &&& 31).toUInt32).toInt32) &&& (255 : Int32)) t26 kb26 (p1 &&& (255 : Int32)) (((p1.toUInt32 >>> ((8 : Int32) &&& 31).toUInt32).toInt32) &&& (255 : Int32)) b11 h433 W433.old c469 c477 SgCS NgCS c470 c471 c472 (own_b255 _) (own_b255 _) c478 c473 c474 c475 (own_b255 _) (own_b255 _) hq441 c476) (w89 hw) (w32 hw) (by decide) (by decide)) (by rw [hml]; rfl) (lenOf pd11 rfl) (S := []) rfl (by exact Nat.le_of_eq rfl) (pc' := 168) (hb hy at_165) rfl (cells' := 11) (slots' := 31) rfl rfl (by decide) (by decide) (wy := []) (fun _ _ _ q => ⟨q.1, q.2.1⟩) all0 (fun _ _ => trivial) ?_
              intro v480 T480 h480 lo480 W480 K480 q480
              obtain rfl := q480.2.2
              show Gl _ _ _ _ _ _ _ _ [(.ref b11)]
              refine o_astore W480 (L' := #[.val (.int p0), .val (.int p1), .val (.int p2), .val (.int 0), .val (.ref b1), .val (.ref b4), .val (.ref b7), .val (.ref b11), .val (.ref b15), .val (.ref b21), .val (.ref b27), .val (.ref b11), .val (.ref b11)]) (pc' := 170) (hb hy at_168) rfl rfl rfl ?_
              refine o_aload W480 (pc' := 172) (hb hy at_170) rfl rfl rfl ?_
              refine o_aload W480 (pc' := 174) (hb hy at_172) rfl rfl rfl ?_
              have c481 := (((c417.keep K419).keep K433).keep K480)
              have c482 := ((c404.ext E21).keep K26)
              have c483 := (((c405.keep K419 (ninS (own_ne c482.lt ge27) nin0)).keep K433 nin0).keep K480 nin0)
              have c484 := (((c407.keep K419 (ninS (own_ne c482.lt ge27) nin0)).keep K433 nin0).keep K480 nin0)
              have c485 := ((c411.ext E21).keep K26 (ninS (own_ne c411.lt ge21) nin0))
              have c486 := (((c412.keep K419 (ninS (own_ne c485.lt ge27) nin0)).keep K433 nin0).keep K480 nin0)
              have ok487 : own_ok [(p1 &&& (255 : Int32)), (((p1.toUInt32 >>> ((8 : Int32) &&& 31).toUInt32).toInt32) &&& (255 : Int32))] := ok25
              have ok488 : own_ok [(p1 &&& (255 : Int32)), (((p1.toUInt32 >>> ((8 : Int32) &&& 31).toUInt32).toInt32) &&& (255 : Int32))] := ok25
              refine o_virtual W480 (y := (⟨"java/lang/String", "equals", "(Ljava/lang/Object;)Z"⟩ : MethodName)) (z := (⟨"java/lang/String", "equals", "(Ljava/lang/Object;)Z"⟩ : MethodName)) (kc := 0) (ks := 0) (Q := fun v hh L => ((v = some (.int 1) ∧ [(p1 &&& (255 : Int32)), (((p1.toUInt32 >>> ((8 : Int32) &&& 31).toUInt32).toInt32) &&& (255 : Int32))] = [(p1 &&& (255 : Int32)), (((p1.toUInt32 >>> ((8 : Int32) &&& 31).toUInt32).toInt32) &&& (255 : Int32))]) ∨ (v = some (.int 0) ∧ ¬ [(p1 &&& (255 : Int32)), (((p1.toUInt32 >>> ((8 : Int32) &&& 31).toUInt32).toInt32) &&& (255 : Int32))] = [(p1 &&& (255 : Int32)), (((p1.toUInt32 >>> ((8 : Int32) &&& 31).toUInt32).toInt32) &&& (255 : Int32))])) ∧ L = [] ∧ hh = h480) (w99 hw) (w91 hw) (o_nf W480 rfl (w93 hw)) (w93 hw) (w92 hw) (by decide) c481 (argsL := [(.ref b11)]) (StrChars.Road.eqW (W := 0) W480.2.2.2.1 (own_hE hw) (kI := 4) (w2 hw) c481 c483 c484 c486 (own_cod ok487) (own_up ok487) ok487.2 c481 c483 c484 c486 (own_cod ok488) (own_up ok488) ok488.2 (SgCS.ext W480.ox) NgCS (by decide) (by decide)) (by rw [hml]; rfl) (lenOf pd10 rfl) (S := []) rfl (by exact Nat.le_of_eq rfl) (pc' := 177) (hb hy at_174) rfl (cells' := 11) (slots' := 31) rfl rfl (by decide) (by decide) (wy := []) (fun _ _ _ q => own_same q.2) all0 (fun _ _ => trivial) ?_
              intro v489 T489 h489 lo489 W489 K489 q489
              obtain rfl := own_eqv q489.1
              show Gl _ _ _ _ _ _ _ _ [(.int (own_eq [(p1 &&& (255 : Int32)), (((p1.toUInt32 >>> ((8 : Int32) &&& 31).toUInt32).toInt32) &&& (255 : Int32))] [(p1 &&& (255 : Int32)), (((p1.toUInt32 >>> ((8 : Int32) &&& 31).toUInt32).toInt32) &&& (255 : Int32))]))]
              refine o_ifN W489 (pc' := 180) (hb hy at_177) (XT.i0_eq_f (own_eqne _)) rfl ?_
              refine o_aload W489 (pc' := 182) (hb hy at_180) rfl rfl rfl ?_
              refine o_aload W489 (pc' := 184) (hb hy at_182) rfl rfl rfl ?_
              have c490 := (c481.keep K489)
              have c491 := (c483.keep K489 nin0)
              have c492 := (c484.keep K489 nin0)
              have c493 := (c486.keep K489 nin0)
              have c494 := ((c477.keep K480).keep K489)
              have c495 := ((c470.keep K480 nin0).keep K489 nin0)
              have c496 := ((c471.keep K480 nin0).keep K489 nin0)
              have c497 := ((c472.keep K480 nin0).keep K489 nin0)
              have ok498 : own_ok [(p1 &&& (255 : Int32)), (((p1.toUInt32 >>> ((8 : Int32) &&& 31).toUInt32).toInt32) &&& (255 : Int32))] := ok25
              have ok499 : own_ok [(p0 &&& (255 : Int32)), (((p0.toUInt32 >>> ((8 : Int32) &&& 31).toUInt32).toInt32) &&& (255 : Int32))] := ok19
              refine o_virtual W489 (y := (⟨"java/lang/String", "equals", "(Ljava/lang/Object;)Z"⟩ : MethodName)) (z := (⟨"java/lang/String", "equals", "(Ljava/lang/Object;)Z"⟩ : MethodName)) (kc := 0) (ks := 0) (Q := fun v hh L => ((v = some (.int 1) ∧ [(p1 &&& (255 : Int32)), (((p1.toUInt32 >>> ((8 : Int32) &&& 31).toUInt32).toInt32) &&& (255 : Int32))] = [(p0 &&& (255 : Int32)), (((p0.toUInt32 >>> ((8 : Int32) &&& 31).toUInt32).toInt32) &&& (255 : Int32))]) ∨ (v = some (.int 0) ∧ ¬ [(p1 &&& (255 : Int32)), (((p1.toUInt32 >>> ((8 : Int32) &&& 31).toUInt32).toInt32) &&& (255 : Int32))] = [(p0 &&& (255 : Int32)), (((p0.toUInt32 >>> ((8 : Int32) &&& 31).toUInt32).toInt32) &&& (255 : Int32))])) ∧ L = [] ∧ hh = h489) (w99 hw) (w91 hw) (o_nf W489 rfl (w93 hw)) (w93 hw) (w92 hw) (by decide) c490 (argsL := [(.ref b7)]) (StrChars.Road.eqW (W := 0) W489.2.2.2.1 (own_hE hw) (kI := 4) (w2 hw) c490 c491 c492 c493 (own_cod ok498) (own_up ok498) ok498.2 c494 c495 c496 c497 (own_cod ok499) (own_up ok499) ok499.2 (SgCS.ext W489.ox) NgCS (by decide) (by decide)) (by rw [hml]; rfl) (lenOf pd10 rfl) (S := []) rfl (by exact Nat.le_of_eq rfl) (pc' := 187) (hb hy at_184) rfl (cells' := 11) (slots' := 31) rfl rfl (by decide) (by decide) (wy := []) (fun _ _ _ q => own_same q.2) all0 (fun _ _ => trivial) ?_
              intro v500 T500 h500 lo500 W500 K500 q500
              obtain rfl := own_eqv q500.1
              show Gl _ _ _ _ _ _ _ _ [(.int (own_eq [(p1 &&& (255 : Int32)), (((p1.toUInt32 >>> ((8 : Int32) &&& 31).toUInt32).toInt32) &&& (255 : Int32))] [(p0 &&& (255 : Int32)), (((p0.toUInt32 >>> ((8 : Int32) &&& 31).toUInt32).toInt32) &&& (255 : Int32))]))]
              refine o_ifN W500 (pc' := 190) (hb hy at_187) (XT.i0_eq_f (fun q => hq441 ((own_eq_symm _ _).trans q))) rfl ?_
              refine o_iconst W500 (v := 1) (pc' := 191) (hb hy at_190) rfl rfl ?_
              refine o_goto W500 (pc' := 195) (hb hy at_191) (by decide) rfl ?_
              exact o_retN W500 hlk (t := .boolean) hret (by simp) (z' := (1 : Int32)) (by decide) (hb hy at_195) (by decide) (by decide) rfl
          · have c501 := ((X10.ext E11).keep K14)
            have c502 := ((c501.ext E15).keep K20)
            have c503 := ((((((((Fv10.ext E11).keep K14 (ninS (own_ne X10.lt ge11) nin0)).ext E15).keep K20 (ninS (own_ne c501.lt ge15) nin0)).ext E21).keep K26 (ninS (own_ne c502.lt ge21) nin0)).ext E27).keep K30 nin0)
            have c504 := ((X14.ext E15).keep K20)
            have c505 := ((((((Fv14.ext E15).keep K20 (ninS (own_ne X14.lt ge15) nin0)).ext E21).keep K26 (ninS (own_ne c504.lt ge21) nin0)).ext E27).keep K30 nin0)
            have c506 := ((((((((Fc10.ext E11).keep K14 (ninS (own_ne X10.lt ge11) nin0)).ext E15).keep K20 (ninS (own_ne c501.lt ge15) nin0)).ext E21).keep K26 (ninS (own_ne c502.lt ge21) nin0)).ext E27).keep K30 nin0)
            have c507 := ((((((Fc14.ext E15).keep K20 (ninS (own_ne X14.lt ge15) nin0)).ext E21).keep K26 (ninS (own_ne c504.lt ge21) nin0)).ext E27).keep K30 nin0)
            have c508 := ((B10.ext E11).keep K14 (ninS (own_ne B10.lt ge11) nin0))
            have c509 := ((c508.ext E15).keep K20 (ninS (own_ne c508.lt ge15) nin0))
            have c510 := ((((((((B10.ext E11).keep K14 (ninS (own_ne B10.lt ge11) nin0)).ext E15).keep K20 (ninS (own_ne c508.lt ge15) nin0)).ext E21).keep K26 (ninS (own_ne c509.lt ge21) nin0)).ext E27).keep K30 nin0)
            have c511 := ((B14.ext E15).keep K20 (ninS (own_ne B14.lt ge15) nin0))
            have c512 := ((((((B14.ext E15).keep K20 (ninS (own_ne B14.lt ge15) nin0)).ext E21).keep K26 (ninS (own_ne c511.lt ge21) nin0)).ext E27).keep K30 nin0)
            have c513 := (Fb27_kind.keep K30 nin0)
            have c514 := (Fb27_first.keep K30 nin0)
            have c515 := (Fb27_second.keep K30 nin0)
            have c516 := ((((c502.ext E21).keep K26).ext E27).keep K30)
            have c517 := ((((c504.ext E21).keep K26).ext E27).keep K30)
            have c518 := (A27.keep K30)
            refine o_special W30 (y := (⟨"com/example/plebiscite/plebiscite/core/Constraint", "<init>", "(Lcom/example/plebiscite/plebiscite/core/Constraint$Kind;Ljava/lang/String;Ljava/lang/String;)V"⟩ : MethodName)) rfl (w41 hw) (w42 hw) (w43 hw) (by decide) (a := b27) (argsL := [(.ref gN), (.ref b7), (.ref b11)]) (CtrN.back (Wd := 1) W30 (rm26 l Z a0 hw gCS gN b27 b7 b11 t10 t14 kb10 (p0 &&& (255 : Int32)) (((p0.toUInt32 >>> ((8 : Int32) &&& 31).toUInt32).toInt32) &&& (255 : Int32)) kb14 (p1 &&& (255 : Int32)) (((p1.toUInt32 >>> ((8 : Int32) &&& 31).toUInt32).toInt32) &&& (255 : Int32)) h30 W30.old SgN_NON_COMMUTING c516 c503 c505 SgCS NgCS c506 c517 c507 c510 c512 hq43 hq400 c518 c513 gz27 c514 c515) (w43 hw) (w32 hw) (by decide) (by decide)) (by rw [hml]; rfl) (lenOf pd9 rfl) (S := [(.ref b27)]) rfl (by exact Nat.le_of_eq rfl) (pc' := 150) (hb hy at_147) rfl (cells' := 11) (slots' := 31) rfl rfl (by decide) (by decide) (wy := [b27]) (fun _ _ _ q => ⟨q.1, q.2.1⟩) (allS ⟨gz27, (Or.inr gb27)⟩ all0) (fun _ _ => trivial) ?_
            intro v519 T519 h519 lo519 W519 K519 q519
            obtain ⟨P519_0, P519_1, P519_2, rfl⟩ := q519.2.2
            show Gl _ _ _ _ _ _ _ _ [(.ref b27)]
            refine o_astore W519 (L' := #[.val (.int p0), .val (.int p1), .val (.int p2), .val (.int 0), .val (.ref b1), .val (.ref b4), .val (.ref b7), .val (.ref b11), .val (.ref b15), .val (.ref b21), .val (.ref b27), .unset, .unset]) (pc' := 152) (hb hy at_150) rfl rfl rfl ?_
            refine o_aload W519 (pc' := 154) (hb hy at_152) rfl rfl rfl ?_
            refine o_aload W519 (pc' := 156) (hb hy at_154) rfl rfl rfl ?_
            by_cases hq530 : (own_eq [(p1 &&& (255 : Int32)), (((p1.toUInt32 >>> ((8 : Int32) &&& 31).toUInt32).toInt32) &&& (255 : Int32))] [(p0 &&& (255 : Int32)), (((p0.toUInt32 >>> ((8 : Int32) &&& 31).toUInt32).toInt32) &&& (255 : Int32))]) = (0 : Int32)
            · have c531 := ((c504.ext E21).keep K26)
              have c532 := (c505.keep K519 (ninS (own_ne c531.lt ge27) nin0))
              have c533 := (c507.keep K519 (ninS (own_ne c531.lt ge27) nin0))
              have c534 := ((c511.ext E21).keep K26 (ninS (own_ne c511.lt ge21) nin0))
              have c535 := (c512.keep K519 (ninS (own_ne c534.lt ge27) nin0))
              have c536 := ((X20.ext E21).keep K26)
              have c537 := (((((Fv20.ext E21).keep K26 (ninS (own_ne X20.lt ge21) nin0)).ext E27).keep K30 nin0).keep K519 (ninS (own_ne c536.lt ge27) nin0))
              have c538 := (((((Fc20.ext E21).keep K26 (ninS (own_ne X20.lt ge21) nin0)).ext E27).keep K30 nin0).keep K519 (ninS (own_ne c536.lt ge27) nin0))
              have c539 := ((B20.ext E21).keep K26 (ninS (own_ne B20.lt ge21) nin0))
              have c540 := (((((B20.ext E21).keep K26 (ninS (own_ne B20.lt ge21) nin0)).ext E27).keep K30 nin0).keep K519 (ninS (own_ne c539.lt ge27) nin0))
              have c541 := (c517.keep K519)
              have c542 := (((c536.ext E27).keep K30).keep K519)
              have c543 := (c518.keep K519)
              refine o_virtual W519 (y := (⟨"com/example/plebiscite/plebiscite/core/Constraint", "other", "(Ljava/lang/String;)Ljava/lang/String;"⟩ : MethodName)) (z := (⟨"com/example/plebiscite/plebiscite/core/Constraint", "other", "(Ljava/lang/String;)Ljava/lang/String;"⟩ : MethodName)) (w85 hw) (w86 hw) (o_nf W519 rfl (w88 hw)) (w88 hw) (w87 hw) (by decide) c543 (argsL := [(.ref b15)]) (CtrN.back (Wd := 0) W519 (rm11 l Z a0 hw gCS b27 b15 b11 t14 kb14 (p1 &&& (255 : Int32)) (((p1.toUInt32 >>> ((8 : Int32) &&& 31).toUInt32).toInt32) &&& (255 : Int32)) t20 kb20 (p0 &&& (255 : Int32)) (((p0.toUInt32 >>> ((8 : Int32) &&& 31).toUInt32).toInt32) &&& (255 : Int32)) h519 W519.old P519_1 c541 SgCS NgCS c532 c533 c535 (own_b255 _) (own_b255 _) c542 c537 c538 c540 (own_b255 _) (own_b255 _) hq530) (w89 hw) (w32 hw) (by decide) (by decide)) (by rw [hml]; rfl) (lenOf pd11 rfl) (S := []) rfl (by exact Nat.le_of_eq rfl) (pc' := 159) (hb hy at_156) rfl (cells' := 11) (slots' := 31) rfl rfl (by decide) (by decide) (wy := []) (fun _ _ _ q => ⟨q.1, q.2.1⟩) all0 (fun _ _ => trivial) ?_
              intro v544 T544 h544 lo544 W544 K544 q544
              obtain rfl := q544.2.2
              show Gl _ _ _ _ _ _ _ _ [(.ref b11)]
              refine o_astore W544 (L' := #[.val (.int p0), .val (.int p1), .val (.int p2), .val (.int 0), .val (.ref b1), .val (.ref b4), .val (.ref b7), .val (.ref b11), .val (.ref b15), .val (.ref b21), .val (.ref b27), .val (.ref b11), .unset]) (pc' := 161) (hb hy at_159) rfl rfl rfl ?_
              refine o_aload W544 (pc' := 163) (hb hy at_161) rfl rfl rfl ?_
              refine o_aload W544 (pc' := 165) (hb hy at_163) rfl rfl rfl ?_
              have c545 := (P519_1.keep K544 nin0)
              have c546 := (c532.keep K544 nin0)
              have c547 := (c533.keep K544 nin0)
              have c548 := (c535.keep K544 nin0)
              have c549 := ((((Fv26.ext E27).keep K30 nin0).keep K519 (ninS (own_ne X26.lt ge27) nin0)).keep K544 nin0)
              have c550 := ((((Fc26.ext E27).keep K30 nin0).keep K519 (ninS (own_ne X26.lt ge27) nin0)).keep K544 nin0)
              have c551 := ((((B26.ext E27).keep K30 nin0).keep K519 (ninS (own_ne B26.lt ge27) nin0)).keep K544 nin0)
              have c552 := (P519_2.keep K544 nin0)
              have c553 := (c541.keep K544)
              have c554 := ((((X26.ext E27).keep K30).keep K519).keep K544)
              have c555 := (c543.keep K544)
              refine o_virtual W544 (y := (⟨"com/example/plebiscite/plebiscite/core/Constraint", "other", "(Ljava/lang/String;)Ljava/lang/String;"⟩ : MethodName)) (z := (⟨"com/example/plebiscite/plebiscite/core/Constraint", "other", "(Ljava/lang/String;)Ljava/lang/String;"⟩ : MethodName)) (w85 hw) (w86 hw) (o_nf W544 rfl (w88 hw)) (w88 hw) (w87 hw) (by decide) c555 (argsL := [(.ref b21)]) (CtrN.back (Wd := 0) W544 (rm10 l Z a0 hw gCS b27 b21 b11 t14 kb14 (p1 &&& (255 : Int32)) (((p1.toUInt32 >>> ((8 : Int32) &&& 31).toUInt32).toInt32) &&& (255 : Int32)) t26 kb26 b7 h544 W544.old c545 c553 SgCS NgCS c546 c547 c548 (own_b255 _) (own_b255 _) c554 c549 c550 c551 c552) (w89 hw) (w32 hw) (by decide) (by decide)) (by rw [hml]; rfl) (lenOf pd11 rfl) (S := []) rfl (by exact Nat.le_of_eq rfl) (pc' := 168) (hb hy at_165) rfl (cells' := 11) (slots' := 31) rfl rfl (by decide) (by decide) (wy := []) (fun _ _ _ q => ⟨q.1, q.2.1⟩) all0 (fun _ _ => trivial) ?_
              intro v556 T556 h556 lo556 W556 K556 q556
              obtain rfl := q556.2.2
              show Gl _ _ _ _ _ _ _ _ [(.ref b7)]
              refine o_astore W556 (L' := #[.val (.int p0), .val (.int p1), .val (.int p2), .val (.int 0), .val (.ref b1), .val (.ref b4), .val (.ref b7), .val (.ref b11), .val (.ref b15), .val (.ref b21), .val (.ref b27), .val (.ref b11), .val (.ref b7)]) (pc' := 170) (hb hy at_168) rfl rfl rfl ?_
              refine o_aload W556 (pc' := 172) (hb hy at_170) rfl rfl rfl ?_
              refine o_aload W556 (pc' := 174) (hb hy at_172) rfl rfl rfl ?_
              have c557 := (c553.keep K556)
              have c558 := (c546.keep K556 nin0)
              have c559 := (c547.keep K556 nin0)
              have c560 := (c548.keep K556 nin0)
              have ok561 : own_ok [(p1 &&& (255 : Int32)), (((p1.toUInt32 >>> ((8 : Int32) &&& 31).toUInt32).toInt32) &&& (255 : Int32))] := ok25
              have ok562 : own_ok [(p1 &&& (255 : Int32)), (((p1.toUInt32 >>> ((8 : Int32) &&& 31).toUInt32).toInt32) &&& (255 : Int32))] := ok25
              refine o_virtual W556 (y := (⟨"java/lang/String", "equals", "(Ljava/lang/Object;)Z"⟩ : MethodName)) (z := (⟨"java/lang/String", "equals", "(Ljava/lang/Object;)Z"⟩ : MethodName)) (kc := 0) (ks := 0) (Q := fun v hh L => ((v = some (.int 1) ∧ [(p1 &&& (255 : Int32)), (((p1.toUInt32 >>> ((8 : Int32) &&& 31).toUInt32).toInt32) &&& (255 : Int32))] = [(p1 &&& (255 : Int32)), (((p1.toUInt32 >>> ((8 : Int32) &&& 31).toUInt32).toInt32) &&& (255 : Int32))]) ∨ (v = some (.int 0) ∧ ¬ [(p1 &&& (255 : Int32)), (((p1.toUInt32 >>> ((8 : Int32) &&& 31).toUInt32).toInt32) &&& (255 : Int32))] = [(p1 &&& (255 : Int32)), (((p1.toUInt32 >>> ((8 : Int32) &&& 31).toUInt32).toInt32) &&& (255 : Int32))])) ∧ L = [] ∧ hh = h556) (w99 hw) (w91 hw) (o_nf W556 rfl (w93 hw)) (w93 hw) (w92 hw) (by decide) c557 (argsL := [(.ref b11)]) (StrChars.Road.eqW (W := 0) W556.2.2.2.1 (own_hE hw) (kI := 4) (w2 hw) c557 c558 c559 c560 (own_cod ok561) (own_up ok561) ok561.2 c557 c558 c559 c560 (own_cod ok562) (own_up ok562) ok562.2 (SgCS.ext W556.ox) NgCS (by decide) (by decide)) (by rw [hml]; rfl) (lenOf pd10 rfl) (S := []) rfl (by exact Nat.le_of_eq rfl) (pc' := 177) (hb hy at_174) rfl (cells' := 11) (slots' := 31) rfl rfl (by decide) (by decide) (wy := []) (fun _ _ _ q => own_same q.2) all0 (fun _ _ => trivial) ?_
              intro v563 T563 h563 lo563 W563 K563 q563
              obtain rfl := own_eqv q563.1
              show Gl _ _ _ _ _ _ _ _ [(.int (own_eq [(p1 &&& (255 : Int32)), (((p1.toUInt32 >>> ((8 : Int32) &&& 31).toUInt32).toInt32) &&& (255 : Int32))] [(p1 &&& (255 : Int32)), (((p1.toUInt32 >>> ((8 : Int32) &&& 31).toUInt32).toInt32) &&& (255 : Int32))]))]
              refine o_ifN W563 (pc' := 180) (hb hy at_177) (XT.i0_eq_f (own_eqne _)) rfl ?_
              refine o_aload W563 (pc' := 182) (hb hy at_180) rfl rfl rfl ?_
              refine o_aload W563 (pc' := 184) (hb hy at_182) rfl rfl rfl ?_
              have c564 := ((((c516.keep K519).keep K544).keep K556).keep K563)
              have c565 := ((c502.ext E21).keep K26)
              have c566 := ((((c503.keep K519 (ninS (own_ne c565.lt ge27) nin0)).keep K544 nin0).keep K556 nin0).keep K563 nin0)
              have c567 := ((((c506.keep K519 (ninS (own_ne c565.lt ge27) nin0)).keep K544 nin0).keep K556 nin0).keep K563 nin0)
              have c568 := ((c509.ext E21).keep K26 (ninS (own_ne c509.lt ge21) nin0))
              have c569 := ((((c510.keep K519 (ninS (own_ne c568.lt ge27) nin0)).keep K544 nin0).keep K556 nin0).keep K563 nin0)
              have ok570 : own_ok [(p0 &&& (255 : Int32)), (((p0.toUInt32 >>> ((8 : Int32) &&& 31).toUInt32).toInt32) &&& (255 : Int32))] := ok19
              have ok571 : own_ok [(p0 &&& (255 : Int32)), (((p0.toUInt32 >>> ((8 : Int32) &&& 31).toUInt32).toInt32) &&& (255 : Int32))] := ok19
              refine o_virtual W563 (y := (⟨"java/lang/String", "equals", "(Ljava/lang/Object;)Z"⟩ : MethodName)) (z := (⟨"java/lang/String", "equals", "(Ljava/lang/Object;)Z"⟩ : MethodName)) (kc := 0) (ks := 0) (Q := fun v hh L => ((v = some (.int 1) ∧ [(p0 &&& (255 : Int32)), (((p0.toUInt32 >>> ((8 : Int32) &&& 31).toUInt32).toInt32) &&& (255 : Int32))] = [(p0 &&& (255 : Int32)), (((p0.toUInt32 >>> ((8 : Int32) &&& 31).toUInt32).toInt32) &&& (255 : Int32))]) ∨ (v = some (.int 0) ∧ ¬ [(p0 &&& (255 : Int32)), (((p0.toUInt32 >>> ((8 : Int32) &&& 31).toUInt32).toInt32) &&& (255 : Int32))] = [(p0 &&& (255 : Int32)), (((p0.toUInt32 >>> ((8 : Int32) &&& 31).toUInt32).toInt32) &&& (255 : Int32))])) ∧ L = [] ∧ hh = h563) (w99 hw) (w91 hw) (o_nf W563 rfl (w93 hw)) (w93 hw) (w92 hw) (by decide) c564 (argsL := [(.ref b7)]) (StrChars.Road.eqW (W := 0) W563.2.2.2.1 (own_hE hw) (kI := 4) (w2 hw) c564 c566 c567 c569 (own_cod ok570) (own_up ok570) ok570.2 c564 c566 c567 c569 (own_cod ok571) (own_up ok571) ok571.2 (SgCS.ext W563.ox) NgCS (by decide) (by decide)) (by rw [hml]; rfl) (lenOf pd10 rfl) (S := []) rfl (by exact Nat.le_of_eq rfl) (pc' := 187) (hb hy at_184) rfl (cells' := 11) (slots' := 31) rfl rfl (by decide) (by decide) (wy := []) (fun _ _ _ q => own_same q.2) all0 (fun _ _ => trivial) ?_
              intro v572 T572 h572 lo572 W572 K572 q572
              obtain rfl := own_eqv q572.1
              show Gl _ _ _ _ _ _ _ _ [(.int (own_eq [(p0 &&& (255 : Int32)), (((p0.toUInt32 >>> ((8 : Int32) &&& 31).toUInt32).toInt32) &&& (255 : Int32))] [(p0 &&& (255 : Int32)), (((p0.toUInt32 >>> ((8 : Int32) &&& 31).toUInt32).toInt32) &&& (255 : Int32))]))]
              refine o_ifN W572 (pc' := 190) (hb hy at_187) (XT.i0_eq_f (own_eqne _)) rfl ?_
              refine o_iconst W572 (v := 1) (pc' := 191) (hb hy at_190) rfl rfl ?_
              refine o_goto W572 (pc' := 195) (hb hy at_191) (by decide) rfl ?_
              exact o_retN W572 hlk (t := .boolean) hret (by simp) (z' := (1 : Int32)) (by decide) (hb hy at_195) (by decide) (by decide) rfl
            · have c573 := ((c504.ext E21).keep K26)
              have c574 := (c505.keep K519 (ninS (own_ne c573.lt ge27) nin0))
              have c575 := (c507.keep K519 (ninS (own_ne c573.lt ge27) nin0))
              have c576 := ((c511.ext E21).keep K26 (ninS (own_ne c511.lt ge21) nin0))
              have c577 := (c512.keep K519 (ninS (own_ne c576.lt ge27) nin0))
              have c578 := ((X20.ext E21).keep K26)
              have c579 := (((((Fv20.ext E21).keep K26 (ninS (own_ne X20.lt ge21) nin0)).ext E27).keep K30 nin0).keep K519 (ninS (own_ne c578.lt ge27) nin0))
              have c580 := (((((Fc20.ext E21).keep K26 (ninS (own_ne X20.lt ge21) nin0)).ext E27).keep K30 nin0).keep K519 (ninS (own_ne c578.lt ge27) nin0))
              have c581 := ((B20.ext E21).keep K26 (ninS (own_ne B20.lt ge21) nin0))
              have c582 := (((((B20.ext E21).keep K26 (ninS (own_ne B20.lt ge21) nin0)).ext E27).keep K30 nin0).keep K519 (ninS (own_ne c581.lt ge27) nin0))
              have c583 := (c517.keep K519)
              have c584 := (((c578.ext E27).keep K30).keep K519)
              have c585 := (c518.keep K519)
              refine o_virtual W519 (y := (⟨"com/example/plebiscite/plebiscite/core/Constraint", "other", "(Ljava/lang/String;)Ljava/lang/String;"⟩ : MethodName)) (z := (⟨"com/example/plebiscite/plebiscite/core/Constraint", "other", "(Ljava/lang/String;)Ljava/lang/String;"⟩ : MethodName)) (w85 hw) (w86 hw) (o_nf W519 rfl (w88 hw)) (w88 hw) (w87 hw) (by decide) c585 (argsL := [(.ref b15)]) (CtrN.back (Wd := 0) W519 (rm12 l Z a0 hw gCS b27 b15 b11 t14 kb14 (p1 &&& (255 : Int32)) (((p1.toUInt32 >>> ((8 : Int32) &&& 31).toUInt32).toInt32) &&& (255 : Int32)) t20 kb20 (p0 &&& (255 : Int32)) (((p0.toUInt32 >>> ((8 : Int32) &&& 31).toUInt32).toInt32) &&& (255 : Int32)) b7 h519 W519.old P519_1 c583 SgCS NgCS c574 c575 c577 (own_b255 _) (own_b255 _) c584 c579 c580 c582 (own_b255 _) (own_b255 _) hq530 P519_2) (w89 hw) (w32 hw) (by decide) (by decide)) (by rw [hml]; rfl) (lenOf pd11 rfl) (S := []) rfl (by exact Nat.le_of_eq rfl) (pc' := 159) (hb hy at_156) rfl (cells' := 11) (slots' := 31) rfl rfl (by decide) (by decide) (wy := []) (fun _ _ _ q => ⟨q.1, q.2.1⟩) all0 (fun _ _ => trivial) ?_
              intro v586 T586 h586 lo586 W586 K586 q586
              obtain rfl := q586.2.2
              show Gl _ _ _ _ _ _ _ _ [(.ref b7)]
              refine o_astore W586 (L' := #[.val (.int p0), .val (.int p1), .val (.int p2), .val (.int 0), .val (.ref b1), .val (.ref b4), .val (.ref b7), .val (.ref b11), .val (.ref b15), .val (.ref b21), .val (.ref b27), .val (.ref b7), .unset]) (pc' := 161) (hb hy at_159) rfl rfl rfl ?_
              refine o_aload W586 (pc' := 163) (hb hy at_161) rfl rfl rfl ?_
              refine o_aload W586 (pc' := 165) (hb hy at_163) rfl rfl rfl ?_
              have c587 := (P519_1.keep K586 nin0)
              have c588 := (c574.keep K586 nin0)
              have c589 := (c575.keep K586 nin0)
              have c590 := (c577.keep K586 nin0)
              have c591 := ((((Fv26.ext E27).keep K30 nin0).keep K519 (ninS (own_ne X26.lt ge27) nin0)).keep K586 nin0)
              have c592 := ((((Fc26.ext E27).keep K30 nin0).keep K519 (ninS (own_ne X26.lt ge27) nin0)).keep K586 nin0)
              have c593 := ((((B26.ext E27).keep K30 nin0).keep K519 (ninS (own_ne B26.lt ge27) nin0)).keep K586 nin0)
              have c594 := (P519_2.keep K586 nin0)
              have c595 := (c583.keep K586)
              have c596 := ((((X26.ext E27).keep K30).keep K519).keep K586)
              have c597 := (c585.keep K586)
              refine o_virtual W586 (y := (⟨"com/example/plebiscite/plebiscite/core/Constraint", "other", "(Ljava/lang/String;)Ljava/lang/String;"⟩ : MethodName)) (z := (⟨"com/example/plebiscite/plebiscite/core/Constraint", "other", "(Ljava/lang/String;)Ljava/lang/String;"⟩ : MethodName)) (w85 hw) (w86 hw) (o_nf W586 rfl (w88 hw)) (w88 hw) (w87 hw) (by decide) c597 (argsL := [(.ref b21)]) (CtrN.back (Wd := 0) W586 (rm10 l Z a0 hw gCS b27 b21 b11 t14 kb14 (p1 &&& (255 : Int32)) (((p1.toUInt32 >>> ((8 : Int32) &&& 31).toUInt32).toInt32) &&& (255 : Int32)) t26 kb26 b7 h586 W586.old c587 c595 SgCS NgCS c588 c589 c590 (own_b255 _) (own_b255 _) c596 c591 c592 c593 c594) (w89 hw) (w32 hw) (by decide) (by decide)) (by rw [hml]; rfl) (lenOf pd11 rfl) (S := []) rfl (by exact Nat.le_of_eq rfl) (pc' := 168) (hb hy at_165) rfl (cells' := 11) (slots' := 31) rfl rfl (by decide) (by decide) (wy := []) (fun _ _ _ q => ⟨q.1, q.2.1⟩) all0 (fun _ _ => trivial) ?_
              intro v598 T598 h598 lo598 W598 K598 q598
              obtain rfl := q598.2.2
              show Gl _ _ _ _ _ _ _ _ [(.ref b7)]
              refine o_astore W598 (L' := #[.val (.int p0), .val (.int p1), .val (.int p2), .val (.int 0), .val (.ref b1), .val (.ref b4), .val (.ref b7), .val (.ref b11), .val (.ref b15), .val (.ref b21), .val (.ref b27), .val (.ref b7), .val (.ref b7)]) (pc' := 170) (hb hy at_168) rfl rfl rfl ?_
              refine o_aload W598 (pc' := 172) (hb hy at_170) rfl rfl rfl ?_
              refine o_aload W598 (pc' := 174) (hb hy at_172) rfl rfl rfl ?_
              have c599 := (((c516.keep K519).keep K586).keep K598)
              have c600 := ((c502.ext E21).keep K26)
              have c601 := (((c503.keep K519 (ninS (own_ne c600.lt ge27) nin0)).keep K586 nin0).keep K598 nin0)
              have c602 := (((c506.keep K519 (ninS (own_ne c600.lt ge27) nin0)).keep K586 nin0).keep K598 nin0)
              have c603 := ((c509.ext E21).keep K26 (ninS (own_ne c509.lt ge21) nin0))
              have c604 := (((c510.keep K519 (ninS (own_ne c603.lt ge27) nin0)).keep K586 nin0).keep K598 nin0)
              have c605 := (c595.keep K598)
              have c606 := (c588.keep K598 nin0)
              have c607 := (c589.keep K598 nin0)
              have c608 := (c590.keep K598 nin0)
              have ok609 : own_ok [(p0 &&& (255 : Int32)), (((p0.toUInt32 >>> ((8 : Int32) &&& 31).toUInt32).toInt32) &&& (255 : Int32))] := ok19
              have ok610 : own_ok [(p1 &&& (255 : Int32)), (((p1.toUInt32 >>> ((8 : Int32) &&& 31).toUInt32).toInt32) &&& (255 : Int32))] := ok25
              refine o_virtual W598 (y := (⟨"java/lang/String", "equals", "(Ljava/lang/Object;)Z"⟩ : MethodName)) (z := (⟨"java/lang/String", "equals", "(Ljava/lang/Object;)Z"⟩ : MethodName)) (kc := 0) (ks := 0) (Q := fun v hh L => ((v = some (.int 1) ∧ [(p0 &&& (255 : Int32)), (((p0.toUInt32 >>> ((8 : Int32) &&& 31).toUInt32).toInt32) &&& (255 : Int32))] = [(p1 &&& (255 : Int32)), (((p1.toUInt32 >>> ((8 : Int32) &&& 31).toUInt32).toInt32) &&& (255 : Int32))]) ∨ (v = some (.int 0) ∧ ¬ [(p0 &&& (255 : Int32)), (((p0.toUInt32 >>> ((8 : Int32) &&& 31).toUInt32).toInt32) &&& (255 : Int32))] = [(p1 &&& (255 : Int32)), (((p1.toUInt32 >>> ((8 : Int32) &&& 31).toUInt32).toInt32) &&& (255 : Int32))])) ∧ L = [] ∧ hh = h598) (w99 hw) (w91 hw) (o_nf W598 rfl (w93 hw)) (w93 hw) (w92 hw) (by decide) c599 (argsL := [(.ref b11)]) (StrChars.Road.eqW (W := 0) W598.2.2.2.1 (own_hE hw) (kI := 4) (w2 hw) c599 c601 c602 c604 (own_cod ok609) (own_up ok609) ok609.2 c605 c606 c607 c608 (own_cod ok610) (own_up ok610) ok610.2 (SgCS.ext W598.ox) NgCS (by decide) (by decide)) (by rw [hml]; rfl) (lenOf pd10 rfl) (S := []) rfl (by exact Nat.le_of_eq rfl) (pc' := 177) (hb hy at_174) rfl (cells' := 11) (slots' := 31) rfl rfl (by decide) (by decide) (wy := []) (fun _ _ _ q => own_same q.2) all0 (fun _ _ => trivial) ?_
              intro v611 T611 h611 lo611 W611 K611 q611
              obtain rfl := own_eqv q611.1
              show Gl _ _ _ _ _ _ _ _ [(.int (own_eq [(p0 &&& (255 : Int32)), (((p0.toUInt32 >>> ((8 : Int32) &&& 31).toUInt32).toInt32) &&& (255 : Int32))] [(p1 &&& (255 : Int32)), (((p1.toUInt32 >>> ((8 : Int32) &&& 31).toUInt32).toInt32) &&& (255 : Int32))]))]
              refine o_ifN W611 (pc' := 180) (hb hy at_177) (XT.i0_eq_f (fun q => hq530 ((own_eq_symm _ _).trans q))) rfl ?_
              refine o_aload W611 (pc' := 182) (hb hy at_180) rfl rfl rfl ?_
              refine o_aload W611 (pc' := 184) (hb hy at_182) rfl rfl rfl ?_
              have c612 := (c599.keep K611)
              have c613 := (c601.keep K611 nin0)
              have c614 := (c602.keep K611 nin0)
              have c615 := (c604.keep K611 nin0)
              have ok616 : own_ok [(p0 &&& (255 : Int32)), (((p0.toUInt32 >>> ((8 : Int32) &&& 31).toUInt32).toInt32) &&& (255 : Int32))] := ok19
              have ok617 : own_ok [(p0 &&& (255 : Int32)), (((p0.toUInt32 >>> ((8 : Int32) &&& 31).toUInt32).toInt32) &&& (255 : Int32))] := ok19
              refine o_virtual W611 (y := (⟨"java/lang/String", "equals", "(Ljava/lang/Object;)Z"⟩ : MethodName)) (z := (⟨"java/lang/String", "equals", "(Ljava/lang/Object;)Z"⟩ : MethodName)) (kc := 0) (ks := 0) (Q := fun v hh L => ((v = some (.int 1) ∧ [(p0 &&& (255 : Int32)), (((p0.toUInt32 >>> ((8 : Int32) &&& 31).toUInt32).toInt32) &&& (255 : Int32))] = [(p0 &&& (255 : Int32)), (((p0.toUInt32 >>> ((8 : Int32) &&& 31).toUInt32).toInt32) &&& (255 : Int32))]) ∨ (v = some (.int 0) ∧ ¬ [(p0 &&& (255 : Int32)), (((p0.toUInt32 >>> ((8 : Int32) &&& 31).toUInt32).toInt32) &&& (255 : Int32))] = [(p0 &&& (255 : Int32)), (((p0.toUInt32 >>> ((8 : Int32) &&& 31).toUInt32).toInt32) &&& (255 : Int32))])) ∧ L = [] ∧ hh = h611) (w99 hw) (w91 hw) (o_nf W611 rfl (w93 hw)) (w93 hw) (w92 hw) (by decide) c612 (argsL := [(.ref b7)]) (StrChars.Road.eqW (W := 0) W611.2.2.2.1 (own_hE hw) (kI := 4) (w2 hw) c612 c613 c614 c615 (own_cod ok616) (own_up ok616) ok616.2 c612 c613 c614 c615 (own_cod ok617) (own_up ok617) ok617.2 (SgCS.ext W611.ox) NgCS (by decide) (by decide)) (by rw [hml]; rfl) (lenOf pd10 rfl) (S := []) rfl (by exact Nat.le_of_eq rfl) (pc' := 187) (hb hy at_184) rfl (cells' := 11) (slots' := 31) rfl rfl (by decide) (by decide) (wy := []) (fun _ _ _ q => own_same q.2) all0 (fun _ _ => trivial) ?_
              intro v618 T618 h618 lo618 W618 K618 q618
              obtain rfl := own_eqv q618.1
              show Gl _ _ _ _ _ _ _ _ [(.int (own_eq [(p0 &&& (255 : Int32)), (((p0.toUInt32 >>> ((8 : Int32) &&& 31).toUInt32).toInt32) &&& (255 : Int32))] [(p0 &&& (255 : Int32)), (((p0.toUInt32 >>> ((8 : Int32) &&& 31).toUInt32).toInt32) &&& (255 : Int32))]))]
              refine o_ifN W618 (pc' := 190) (hb hy at_187) (XT.i0_eq_f (own_eqne _)) rfl ?_
              refine o_iconst W618 (v := 1) (pc' := 191) (hb hy at_190) rfl rfl ?_
              refine o_goto W618 (pc' := 195) (hb hy at_191) (by decide) rfl ?_
              exact o_retN W618 hlk (t := .boolean) hret (by simp) (z' := (1 : Int32)) (by decide) (hb hy at_195) (by decide) (by decide) rfl
      · refine o_static W27 (y := (⟨"com/example/plebiscite/plebiscite/core/ConstraintOtherPinLaw", "kindOf", "(I)Lcom/example/plebiscite/plebiscite/core/Constraint$Kind;"⟩ : MethodName)) (w33 hw) (w34 hw) (w35 hw) (w36 hw) (by decide) (argsL := [(.int p2)]) (CtrN.back (Wd := 2) W27 (rm27 l Z a0 hw gE p2 h27 W27.old hq28 hq29 SgE_ENABLES) (w36 hw) (w35 hw) (by decide) (by decide)) (by rw [hml]; rfl) (lenOf pd1 rfl) (S := [(.ref b27), (.ref b27)]) rfl (by exact Nat.le_of_eq rfl) (pc' := 143) (hb hy at_140) rfl (cells' := 11) (slots' := 31) rfl rfl (by decide) (by decide) (wy := []) (fun _ _ _ q => ⟨q.1, q.2.1⟩) all0 (fun _ _ => trivial) ?_
        intro v619 T619 h619 lo619 W619 K619 q619
        obtain rfl := q619.2.2
        show Gl _ _ _ _ _ _ _ _ [(.ref gE), (.ref b27), (.ref b27)]
        refine o_aload W619 (pc' := 145) (hb hy at_143) rfl rfl rfl ?_
        refine o_aload W619 (pc' := 147) (hb hy at_145) rfl rfl rfl ?_
        have c620 := (Fb27_kind.keep K619 nin0)
        have c621 := (Fb27_first.keep K619 nin0)
        have c622 := (Fb27_second.keep K619 nin0)
        have c623 := (A27.keep K619)
        refine o_special W619 (y := (⟨"com/example/plebiscite/plebiscite/core/Constraint", "<init>", "(Lcom/example/plebiscite/plebiscite/core/Constraint$Kind;Ljava/lang/String;Ljava/lang/String;)V"⟩ : MethodName)) rfl (w41 hw) (w42 hw) (w43 hw) (by decide) (a := b27) (argsL := [(.ref gE), (.ref b7), (.ref b11)]) (CtrN.back (Wd := 1) W619 (rm28 l Z a0 hw gN gE b27 b7 b11 h619 W619.old SgN_NON_COMMUTING negEgN c623 c620 gz27 c621 c622) (w43 hw) (w32 hw) (by decide) (by decide)) (by rw [hml]; rfl) (lenOf pd9 rfl) (S := [(.ref b27)]) rfl (by exact Nat.le_of_eq rfl) (pc' := 150) (hb hy at_147) rfl (cells' := 11) (slots' := 31) rfl rfl (by decide) (by decide) (wy := [b27]) (fun _ _ _ q => ⟨q.1, q.2.1⟩) (allS ⟨gz27, (Or.inr gb27)⟩ all0) (fun _ _ => trivial) ?_
        intro v624 T624 h624 lo624 W624 K624 q624
        obtain ⟨P624_0, P624_1, P624_2, rfl⟩ := q624.2.2
        show Gl _ _ _ _ _ _ _ _ [(.ref b27)]
        refine o_astore W624 (L' := #[.val (.int p0), .val (.int p1), .val (.int p2), .val (.int 0), .val (.ref b1), .val (.ref b4), .val (.ref b7), .val (.ref b11), .val (.ref b15), .val (.ref b21), .val (.ref b27), .unset, .unset]) (pc' := 152) (hb hy at_150) rfl rfl rfl ?_
        refine o_aload W624 (pc' := 154) (hb hy at_152) rfl rfl rfl ?_
        refine o_aload W624 (pc' := 156) (hb hy at_154) rfl rfl rfl ?_
        have c625 := ((X10.ext E11).keep K14)
        have c626 := ((c625.ext E15).keep K20)
        have c627 := ((c626.ext E21).keep K26)
        have c628 := (((((((((Fv10.ext E11).keep K14 (ninS (own_ne X10.lt ge11) nin0)).ext E15).keep K20 (ninS (own_ne c625.lt ge15) nin0)).ext E21).keep K26 (ninS (own_ne c626.lt ge21) nin0)).ext E27).keep K619 nin0).keep K624 (ninS (own_ne c627.lt ge27) nin0))
        have c629 := (((((((((Fc10.ext E11).keep K14 (ninS (own_ne X10.lt ge11) nin0)).ext E15).keep K20 (ninS (own_ne c625.lt ge15) nin0)).ext E21).keep K26 (ninS (own_ne c626.lt ge21) nin0)).ext E27).keep K619 nin0).keep K624 (ninS (own_ne c627.lt ge27) nin0))
        have c630 := ((B10.ext E11).keep K14 (ninS (own_ne B10.lt ge11) nin0))
        have c631 := ((c630.ext E15).keep K20 (ninS (own_ne c630.lt ge15) nin0))
        have c632 := ((c631.ext E21).keep K26 (ninS (own_ne c631.lt ge21) nin0))
        have c633 := (((((((((B10.ext E11).keep K14 (ninS (own_ne B10.lt ge11) nin0)).ext E15).keep K20 (ninS (own_ne c630.lt ge15) nin0)).ext E21).keep K26 (ninS (own_ne c631.lt ge21) nin0)).ext E27).keep K619 nin0).keep K624 (ninS (own_ne c632.lt ge27) nin0))
        have c634 := ((X20.ext E21).keep K26)
        have c635 := (((((Fv20.ext E21).keep K26 (ninS (own_ne X20.lt ge21) nin0)).ext E27).keep K619 nin0).keep K624 (ninS (own_ne c634.lt ge27) nin0))
        have c636 := (((((Fc20.ext E21).keep K26 (ninS (own_ne X20.lt ge21) nin0)).ext E27).keep K619 nin0).keep K624 (ninS (own_ne c634.lt ge27) nin0))
        have c637 := ((B20.ext E21).keep K26 (ninS (own_ne B20.lt ge21) nin0))
        have c638 := (((((B20.ext E21).keep K26 (ninS (own_ne B20.lt ge21) nin0)).ext E27).keep K619 nin0).keep K624 (ninS (own_ne c637.lt ge27) nin0))
        have c639 := (((c627.ext E27).keep K619).keep K624)
        have c640 := (((c634.ext E27).keep K619).keep K624)
        have c641 := (c623.keep K624)
        refine o_virtual W624 (y := (⟨"com/example/plebiscite/plebiscite/core/Constraint", "other", "(Ljava/lang/String;)Ljava/lang/String;"⟩ : MethodName)) (z := (⟨"com/example/plebiscite/plebiscite/core/Constraint", "other", "(Ljava/lang/String;)Ljava/lang/String;"⟩ : MethodName)) (w85 hw) (w86 hw) (o_nf W624 rfl (w88 hw)) (w88 hw) (w87 hw) (by decide) c641 (argsL := [(.ref b15)]) (CtrN.back (Wd := 0) W624 (rm10 l Z a0 hw gCS b27 b15 b7 t10 kb10 (p0 &&& (255 : Int32)) (((p0.toUInt32 >>> ((8 : Int32) &&& 31).toUInt32).toInt32) &&& (255 : Int32)) t20 kb20 b11 h624 W624.old P624_1 c639 SgCS NgCS c628 c629 c633 (own_b255 _) (own_b255 _) c640 c635 c636 c638 P624_2) (w89 hw) (w32 hw) (by decide) (by decide)) (by rw [hml]; rfl) (lenOf pd11 rfl) (S := []) rfl (by exact Nat.le_of_eq rfl) (pc' := 159) (hb hy at_156) rfl (cells' := 11) (slots' := 31) rfl rfl (by decide) (by decide) (wy := []) (fun _ _ _ q => ⟨q.1, q.2.1⟩) all0 (fun _ _ => trivial) ?_
        intro v642 T642 h642 lo642 W642 K642 q642
        obtain rfl := q642.2.2
        show Gl _ _ _ _ _ _ _ _ [(.ref b11)]
        refine o_astore W642 (L' := #[.val (.int p0), .val (.int p1), .val (.int p2), .val (.int 0), .val (.ref b1), .val (.ref b4), .val (.ref b7), .val (.ref b11), .val (.ref b15), .val (.ref b21), .val (.ref b27), .val (.ref b11), .unset]) (pc' := 161) (hb hy at_159) rfl rfl rfl ?_
        refine o_aload W642 (pc' := 163) (hb hy at_161) rfl rfl rfl ?_
        refine o_aload W642 (pc' := 165) (hb hy at_163) rfl rfl rfl ?_
        by_cases hq650 : (own_eq [(p0 &&& (255 : Int32)), (((p0.toUInt32 >>> ((8 : Int32) &&& 31).toUInt32).toInt32) &&& (255 : Int32))] [(p1 &&& (255 : Int32)), (((p1.toUInt32 >>> ((8 : Int32) &&& 31).toUInt32).toInt32) &&& (255 : Int32))]) = (0 : Int32)
        · have c651 := (P624_1.keep K642 nin0)
          have c652 := (c628.keep K642 nin0)
          have c653 := (c629.keep K642 nin0)
          have c654 := (c633.keep K642 nin0)
          have c655 := ((((Fv26.ext E27).keep K619 nin0).keep K624 (ninS (own_ne X26.lt ge27) nin0)).keep K642 nin0)
          have c656 := ((((Fc26.ext E27).keep K619 nin0).keep K624 (ninS (own_ne X26.lt ge27) nin0)).keep K642 nin0)
          have c657 := ((((B26.ext E27).keep K619 nin0).keep K624 (ninS (own_ne B26.lt ge27) nin0)).keep K642 nin0)
          have c658 := (c639.keep K642)
          have c659 := ((((X26.ext E27).keep K619).keep K624).keep K642)
          have c660 := (c641.keep K642)
          refine o_virtual W642 (y := (⟨"com/example/plebiscite/plebiscite/core/Constraint", "other", "(Ljava/lang/String;)Ljava/lang/String;"⟩ : MethodName)) (z := (⟨"com/example/plebiscite/plebiscite/core/Constraint", "other", "(Ljava/lang/String;)Ljava/lang/String;"⟩ : MethodName)) (w85 hw) (w86 hw) (o_nf W642 rfl (w88 hw)) (w88 hw) (w87 hw) (by decide) c660 (argsL := [(.ref b21)]) (CtrN.back (Wd := 0) W642 (rm11 l Z a0 hw gCS b27 b21 b7 t10 kb10 (p0 &&& (255 : Int32)) (((p0.toUInt32 >>> ((8 : Int32) &&& 31).toUInt32).toInt32) &&& (255 : Int32)) t26 kb26 (p1 &&& (255 : Int32)) (((p1.toUInt32 >>> ((8 : Int32) &&& 31).toUInt32).toInt32) &&& (255 : Int32)) h642 W642.old c651 c658 SgCS NgCS c652 c653 c654 (own_b255 _) (own_b255 _) c659 c655 c656 c657 (own_b255 _) (own_b255 _) hq650) (w89 hw) (w32 hw) (by decide) (by decide)) (by rw [hml]; rfl) (lenOf pd11 rfl) (S := []) rfl (by exact Nat.le_of_eq rfl) (pc' := 168) (hb hy at_165) rfl (cells' := 11) (slots' := 31) rfl rfl (by decide) (by decide) (wy := []) (fun _ _ _ q => ⟨q.1, q.2.1⟩) all0 (fun _ _ => trivial) ?_
          intro v661 T661 h661 lo661 W661 K661 q661
          obtain rfl := q661.2.2
          show Gl _ _ _ _ _ _ _ _ [(.ref b7)]
          refine o_astore W661 (L' := #[.val (.int p0), .val (.int p1), .val (.int p2), .val (.int 0), .val (.ref b1), .val (.ref b4), .val (.ref b7), .val (.ref b11), .val (.ref b15), .val (.ref b21), .val (.ref b27), .val (.ref b11), .val (.ref b7)]) (pc' := 170) (hb hy at_168) rfl rfl rfl ?_
          refine o_aload W661 (pc' := 172) (hb hy at_170) rfl rfl rfl ?_
          refine o_aload W661 (pc' := 174) (hb hy at_172) rfl rfl rfl ?_
          have c662 := (((((((((X14.ext E15).keep K20).ext E21).keep K26).ext E27).keep K619).keep K624).keep K642).keep K661)
          have c663 := ((X14.ext E15).keep K20)
          have c664 := ((c663.ext E21).keep K26)
          have c665 := (((((((((Fv14.ext E15).keep K20 (ninS (own_ne X14.lt ge15) nin0)).ext E21).keep K26 (ninS (own_ne c663.lt ge21) nin0)).ext E27).keep K619 nin0).keep K624 (ninS (own_ne c664.lt ge27) nin0)).keep K642 nin0).keep K661 nin0)
          have c666 := (((((((((Fc14.ext E15).keep K20 (ninS (own_ne X14.lt ge15) nin0)).ext E21).keep K26 (ninS (own_ne c663.lt ge21) nin0)).ext E27).keep K619 nin0).keep K624 (ninS (own_ne c664.lt ge27) nin0)).keep K642 nin0).keep K661 nin0)
          have c667 := ((B14.ext E15).keep K20 (ninS (own_ne B14.lt ge15) nin0))
          have c668 := ((c667.ext E21).keep K26 (ninS (own_ne c667.lt ge21) nin0))
          have c669 := (((((((((B14.ext E15).keep K20 (ninS (own_ne B14.lt ge15) nin0)).ext E21).keep K26 (ninS (own_ne c667.lt ge21) nin0)).ext E27).keep K619 nin0).keep K624 (ninS (own_ne c668.lt ge27) nin0)).keep K642 nin0).keep K661 nin0)
          have ok670 : own_ok [(p1 &&& (255 : Int32)), (((p1.toUInt32 >>> ((8 : Int32) &&& 31).toUInt32).toInt32) &&& (255 : Int32))] := ok25
          have ok671 : own_ok [(p1 &&& (255 : Int32)), (((p1.toUInt32 >>> ((8 : Int32) &&& 31).toUInt32).toInt32) &&& (255 : Int32))] := ok25
          refine o_virtual W661 (y := (⟨"java/lang/String", "equals", "(Ljava/lang/Object;)Z"⟩ : MethodName)) (z := (⟨"java/lang/String", "equals", "(Ljava/lang/Object;)Z"⟩ : MethodName)) (kc := 0) (ks := 0) (Q := fun v hh L => ((v = some (.int 1) ∧ [(p1 &&& (255 : Int32)), (((p1.toUInt32 >>> ((8 : Int32) &&& 31).toUInt32).toInt32) &&& (255 : Int32))] = [(p1 &&& (255 : Int32)), (((p1.toUInt32 >>> ((8 : Int32) &&& 31).toUInt32).toInt32) &&& (255 : Int32))]) ∨ (v = some (.int 0) ∧ ¬ [(p1 &&& (255 : Int32)), (((p1.toUInt32 >>> ((8 : Int32) &&& 31).toUInt32).toInt32) &&& (255 : Int32))] = [(p1 &&& (255 : Int32)), (((p1.toUInt32 >>> ((8 : Int32) &&& 31).toUInt32).toInt32) &&& (255 : Int32))])) ∧ L = [] ∧ hh = h661) (w99 hw) (w91 hw) (o_nf W661 rfl (w93 hw)) (w93 hw) (w92 hw) (by decide) c662 (argsL := [(.ref b11)]) (StrChars.Road.eqW (W := 0) W661.2.2.2.1 (own_hE hw) (kI := 4) (w2 hw) c662 c665 c666 c669 (own_cod ok670) (own_up ok670) ok670.2 c662 c665 c666 c669 (own_cod ok671) (own_up ok671) ok671.2 (SgCS.ext W661.ox) NgCS (by decide) (by decide)) (by rw [hml]; rfl) (lenOf pd10 rfl) (S := []) rfl (by exact Nat.le_of_eq rfl) (pc' := 177) (hb hy at_174) rfl (cells' := 11) (slots' := 31) rfl rfl (by decide) (by decide) (wy := []) (fun _ _ _ q => own_same q.2) all0 (fun _ _ => trivial) ?_
          intro v672 T672 h672 lo672 W672 K672 q672
          obtain rfl := own_eqv q672.1
          show Gl _ _ _ _ _ _ _ _ [(.int (own_eq [(p1 &&& (255 : Int32)), (((p1.toUInt32 >>> ((8 : Int32) &&& 31).toUInt32).toInt32) &&& (255 : Int32))] [(p1 &&& (255 : Int32)), (((p1.toUInt32 >>> ((8 : Int32) &&& 31).toUInt32).toInt32) &&& (255 : Int32))]))]
          refine o_ifN W672 (pc' := 180) (hb hy at_177) (XT.i0_eq_f (own_eqne _)) rfl ?_
          refine o_aload W672 (pc' := 182) (hb hy at_180) rfl rfl rfl ?_
          refine o_aload W672 (pc' := 184) (hb hy at_182) rfl rfl rfl ?_
          have c673 := ((c658.keep K661).keep K672)
          have c674 := ((c652.keep K661 nin0).keep K672 nin0)
          have c675 := ((c653.keep K661 nin0).keep K672 nin0)
          have c676 := ((c654.keep K661 nin0).keep K672 nin0)
          have ok677 : own_ok [(p0 &&& (255 : Int32)), (((p0.toUInt32 >>> ((8 : Int32) &&& 31).toUInt32).toInt32) &&& (255 : Int32))] := ok19
          have ok678 : own_ok [(p0 &&& (255 : Int32)), (((p0.toUInt32 >>> ((8 : Int32) &&& 31).toUInt32).toInt32) &&& (255 : Int32))] := ok19
          refine o_virtual W672 (y := (⟨"java/lang/String", "equals", "(Ljava/lang/Object;)Z"⟩ : MethodName)) (z := (⟨"java/lang/String", "equals", "(Ljava/lang/Object;)Z"⟩ : MethodName)) (kc := 0) (ks := 0) (Q := fun v hh L => ((v = some (.int 1) ∧ [(p0 &&& (255 : Int32)), (((p0.toUInt32 >>> ((8 : Int32) &&& 31).toUInt32).toInt32) &&& (255 : Int32))] = [(p0 &&& (255 : Int32)), (((p0.toUInt32 >>> ((8 : Int32) &&& 31).toUInt32).toInt32) &&& (255 : Int32))]) ∨ (v = some (.int 0) ∧ ¬ [(p0 &&& (255 : Int32)), (((p0.toUInt32 >>> ((8 : Int32) &&& 31).toUInt32).toInt32) &&& (255 : Int32))] = [(p0 &&& (255 : Int32)), (((p0.toUInt32 >>> ((8 : Int32) &&& 31).toUInt32).toInt32) &&& (255 : Int32))])) ∧ L = [] ∧ hh = h672) (w99 hw) (w91 hw) (o_nf W672 rfl (w93 hw)) (w93 hw) (w92 hw) (by decide) c673 (argsL := [(.ref b7)]) (StrChars.Road.eqW (W := 0) W672.2.2.2.1 (own_hE hw) (kI := 4) (w2 hw) c673 c674 c675 c676 (own_cod ok677) (own_up ok677) ok677.2 c673 c674 c675 c676 (own_cod ok678) (own_up ok678) ok678.2 (SgCS.ext W672.ox) NgCS (by decide) (by decide)) (by rw [hml]; rfl) (lenOf pd10 rfl) (S := []) rfl (by exact Nat.le_of_eq rfl) (pc' := 187) (hb hy at_184) rfl (cells' := 11) (slots' := 31) rfl rfl (by decide) (by decide) (wy := []) (fun _ _ _ q => own_same q.2) all0 (fun _ _ => trivial) ?_
          intro v679 T679 h679 lo679 W679 K679 q679
          obtain rfl := own_eqv q679.1
          show Gl _ _ _ _ _ _ _ _ [(.int (own_eq [(p0 &&& (255 : Int32)), (((p0.toUInt32 >>> ((8 : Int32) &&& 31).toUInt32).toInt32) &&& (255 : Int32))] [(p0 &&& (255 : Int32)), (((p0.toUInt32 >>> ((8 : Int32) &&& 31).toUInt32).toInt32) &&& (255 : Int32))]))]
          refine o_ifN W679 (pc' := 190) (hb hy at_187) (XT.i0_eq_f (own_eqne _)) rfl ?_
          refine o_iconst W679 (v := 1) (pc' := 191) (hb hy at_190) rfl rfl ?_
          refine o_goto W679 (pc' := 195) (hb hy at_191) (by decide) rfl ?_
          exact o_retN W679 hlk (t := .boolean) hret (by simp) (z' := (1 : Int32)) (by decide) (hb hy at_195) (by decide) (by decide) rfl
        · have c680 := (P624_1.keep K642 nin0)
          have c681 := (c628.keep K642 nin0)
          have c682 := (c629.keep K642 nin0)
          have c683 := (c633.keep K642 nin0)
          have c684 := ((((Fv26.ext E27).keep K619 nin0).keep K624 (ninS (own_ne X26.lt ge27) nin0)).keep K642 nin0)
          have c685 := ((((Fc26.ext E27).keep K619 nin0).keep K624 (ninS (own_ne X26.lt ge27) nin0)).keep K642 nin0)
          have c686 := ((((B26.ext E27).keep K619 nin0).keep K624 (ninS (own_ne B26.lt ge27) nin0)).keep K642 nin0)
          have c687 := (P624_2.keep K642 nin0)
          have c688 := (c639.keep K642)
          have c689 := ((((X26.ext E27).keep K619).keep K624).keep K642)
          have c690 := (c641.keep K642)
          refine o_virtual W642 (y := (⟨"com/example/plebiscite/plebiscite/core/Constraint", "other", "(Ljava/lang/String;)Ljava/lang/String;"⟩ : MethodName)) (z := (⟨"com/example/plebiscite/plebiscite/core/Constraint", "other", "(Ljava/lang/String;)Ljava/lang/String;"⟩ : MethodName)) (w85 hw) (w86 hw) (o_nf W642 rfl (w88 hw)) (w88 hw) (w87 hw) (by decide) c690 (argsL := [(.ref b21)]) (CtrN.back (Wd := 0) W642 (rm12 l Z a0 hw gCS b27 b21 b7 t10 kb10 (p0 &&& (255 : Int32)) (((p0.toUInt32 >>> ((8 : Int32) &&& 31).toUInt32).toInt32) &&& (255 : Int32)) t26 kb26 (p1 &&& (255 : Int32)) (((p1.toUInt32 >>> ((8 : Int32) &&& 31).toUInt32).toInt32) &&& (255 : Int32)) b11 h642 W642.old c680 c688 SgCS NgCS c681 c682 c683 (own_b255 _) (own_b255 _) c689 c684 c685 c686 (own_b255 _) (own_b255 _) hq650 c687) (w89 hw) (w32 hw) (by decide) (by decide)) (by rw [hml]; rfl) (lenOf pd11 rfl) (S := []) rfl (by exact Nat.le_of_eq rfl) (pc' := 168) (hb hy at_165) rfl (cells' := 11) (slots' := 31) rfl rfl (by decide) (by decide) (wy := []) (fun _ _ _ q => ⟨q.1, q.2.1⟩) all0 (fun _ _ => trivial) ?_
          intro v691 T691 h691 lo691 W691 K691 q691
          obtain rfl := q691.2.2
          show Gl _ _ _ _ _ _ _ _ [(.ref b11)]
          refine o_astore W691 (L' := #[.val (.int p0), .val (.int p1), .val (.int p2), .val (.int 0), .val (.ref b1), .val (.ref b4), .val (.ref b7), .val (.ref b11), .val (.ref b15), .val (.ref b21), .val (.ref b27), .val (.ref b11), .val (.ref b11)]) (pc' := 170) (hb hy at_168) rfl rfl rfl ?_
          refine o_aload W691 (pc' := 172) (hb hy at_170) rfl rfl rfl ?_
          refine o_aload W691 (pc' := 174) (hb hy at_172) rfl rfl rfl ?_
          have c692 := (((((((((X14.ext E15).keep K20).ext E21).keep K26).ext E27).keep K619).keep K624).keep K642).keep K691)
          have c693 := ((X14.ext E15).keep K20)
          have c694 := ((c693.ext E21).keep K26)
          have c695 := (((((((((Fv14.ext E15).keep K20 (ninS (own_ne X14.lt ge15) nin0)).ext E21).keep K26 (ninS (own_ne c693.lt ge21) nin0)).ext E27).keep K619 nin0).keep K624 (ninS (own_ne c694.lt ge27) nin0)).keep K642 nin0).keep K691 nin0)
          have c696 := (((((((((Fc14.ext E15).keep K20 (ninS (own_ne X14.lt ge15) nin0)).ext E21).keep K26 (ninS (own_ne c693.lt ge21) nin0)).ext E27).keep K619 nin0).keep K624 (ninS (own_ne c694.lt ge27) nin0)).keep K642 nin0).keep K691 nin0)
          have c697 := ((B14.ext E15).keep K20 (ninS (own_ne B14.lt ge15) nin0))
          have c698 := ((c697.ext E21).keep K26 (ninS (own_ne c697.lt ge21) nin0))
          have c699 := (((((((((B14.ext E15).keep K20 (ninS (own_ne B14.lt ge15) nin0)).ext E21).keep K26 (ninS (own_ne c697.lt ge21) nin0)).ext E27).keep K619 nin0).keep K624 (ninS (own_ne c698.lt ge27) nin0)).keep K642 nin0).keep K691 nin0)
          have ok700 : own_ok [(p1 &&& (255 : Int32)), (((p1.toUInt32 >>> ((8 : Int32) &&& 31).toUInt32).toInt32) &&& (255 : Int32))] := ok25
          have ok701 : own_ok [(p1 &&& (255 : Int32)), (((p1.toUInt32 >>> ((8 : Int32) &&& 31).toUInt32).toInt32) &&& (255 : Int32))] := ok25
          refine o_virtual W691 (y := (⟨"java/lang/String", "equals", "(Ljava/lang/Object;)Z"⟩ : MethodName)) (z := (⟨"java/lang/String", "equals", "(Ljava/lang/Object;)Z"⟩ : MethodName)) (kc := 0) (ks := 0) (Q := fun v hh L => ((v = some (.int 1) ∧ [(p1 &&& (255 : Int32)), (((p1.toUInt32 >>> ((8 : Int32) &&& 31).toUInt32).toInt32) &&& (255 : Int32))] = [(p1 &&& (255 : Int32)), (((p1.toUInt32 >>> ((8 : Int32) &&& 31).toUInt32).toInt32) &&& (255 : Int32))]) ∨ (v = some (.int 0) ∧ ¬ [(p1 &&& (255 : Int32)), (((p1.toUInt32 >>> ((8 : Int32) &&& 31).toUInt32).toInt32) &&& (255 : Int32))] = [(p1 &&& (255 : Int32)), (((p1.toUInt32 >>> ((8 : Int32) &&& 31).toUInt32).toInt32) &&& (255 : Int32))])) ∧ L = [] ∧ hh = h691) (w99 hw) (w91 hw) (o_nf W691 rfl (w93 hw)) (w93 hw) (w92 hw) (by decide) c692 (argsL := [(.ref b11)]) (StrChars.Road.eqW (W := 0) W691.2.2.2.1 (own_hE hw) (kI := 4) (w2 hw) c692 c695 c696 c699 (own_cod ok700) (own_up ok700) ok700.2 c692 c695 c696 c699 (own_cod ok701) (own_up ok701) ok701.2 (SgCS.ext W691.ox) NgCS (by decide) (by decide)) (by rw [hml]; rfl) (lenOf pd10 rfl) (S := []) rfl (by exact Nat.le_of_eq rfl) (pc' := 177) (hb hy at_174) rfl (cells' := 11) (slots' := 31) rfl rfl (by decide) (by decide) (wy := []) (fun _ _ _ q => own_same q.2) all0 (fun _ _ => trivial) ?_
          intro v702 T702 h702 lo702 W702 K702 q702
          obtain rfl := own_eqv q702.1
          show Gl _ _ _ _ _ _ _ _ [(.int (own_eq [(p1 &&& (255 : Int32)), (((p1.toUInt32 >>> ((8 : Int32) &&& 31).toUInt32).toInt32) &&& (255 : Int32))] [(p1 &&& (255 : Int32)), (((p1.toUInt32 >>> ((8 : Int32) &&& 31).toUInt32).toInt32) &&& (255 : Int32))]))]
          refine o_ifN W702 (pc' := 180) (hb hy at_177) (XT.i0_eq_f (own_eqne _)) rfl ?_
          refine o_aload W702 (pc' := 182) (hb hy at_180) rfl rfl rfl ?_
          refine o_aload W702 (pc' := 184) (hb hy at_182) rfl rfl rfl ?_
          have c703 := (c692.keep K702)
          have c704 := (c695.keep K702 nin0)
          have c705 := (c696.keep K702 nin0)
          have c706 := (c699.keep K702 nin0)
          have c707 := ((c688.keep K691).keep K702)
          have c708 := ((c681.keep K691 nin0).keep K702 nin0)
          have c709 := ((c682.keep K691 nin0).keep K702 nin0)
          have c710 := ((c683.keep K691 nin0).keep K702 nin0)
          have ok711 : own_ok [(p1 &&& (255 : Int32)), (((p1.toUInt32 >>> ((8 : Int32) &&& 31).toUInt32).toInt32) &&& (255 : Int32))] := ok25
          have ok712 : own_ok [(p0 &&& (255 : Int32)), (((p0.toUInt32 >>> ((8 : Int32) &&& 31).toUInt32).toInt32) &&& (255 : Int32))] := ok19
          refine o_virtual W702 (y := (⟨"java/lang/String", "equals", "(Ljava/lang/Object;)Z"⟩ : MethodName)) (z := (⟨"java/lang/String", "equals", "(Ljava/lang/Object;)Z"⟩ : MethodName)) (kc := 0) (ks := 0) (Q := fun v hh L => ((v = some (.int 1) ∧ [(p1 &&& (255 : Int32)), (((p1.toUInt32 >>> ((8 : Int32) &&& 31).toUInt32).toInt32) &&& (255 : Int32))] = [(p0 &&& (255 : Int32)), (((p0.toUInt32 >>> ((8 : Int32) &&& 31).toUInt32).toInt32) &&& (255 : Int32))]) ∨ (v = some (.int 0) ∧ ¬ [(p1 &&& (255 : Int32)), (((p1.toUInt32 >>> ((8 : Int32) &&& 31).toUInt32).toInt32) &&& (255 : Int32))] = [(p0 &&& (255 : Int32)), (((p0.toUInt32 >>> ((8 : Int32) &&& 31).toUInt32).toInt32) &&& (255 : Int32))])) ∧ L = [] ∧ hh = h702) (w99 hw) (w91 hw) (o_nf W702 rfl (w93 hw)) (w93 hw) (w92 hw) (by decide) c703 (argsL := [(.ref b7)]) (StrChars.Road.eqW (W := 0) W702.2.2.2.1 (own_hE hw) (kI := 4) (w2 hw) c703 c704 c705 c706 (own_cod ok711) (own_up ok711) ok711.2 c707 c708 c709 c710 (own_cod ok712) (own_up ok712) ok712.2 (SgCS.ext W702.ox) NgCS (by decide) (by decide)) (by rw [hml]; rfl) (lenOf pd10 rfl) (S := []) rfl (by exact Nat.le_of_eq rfl) (pc' := 187) (hb hy at_184) rfl (cells' := 11) (slots' := 31) rfl rfl (by decide) (by decide) (wy := []) (fun _ _ _ q => own_same q.2) all0 (fun _ _ => trivial) ?_
          intro v713 T713 h713 lo713 W713 K713 q713
          obtain rfl := own_eqv q713.1
          show Gl _ _ _ _ _ _ _ _ [(.int (own_eq [(p1 &&& (255 : Int32)), (((p1.toUInt32 >>> ((8 : Int32) &&& 31).toUInt32).toInt32) &&& (255 : Int32))] [(p0 &&& (255 : Int32)), (((p0.toUInt32 >>> ((8 : Int32) &&& 31).toUInt32).toInt32) &&& (255 : Int32))]))]
          refine o_ifN W713 (pc' := 190) (hb hy at_187) (XT.i0_eq_f (fun q => hq650 ((own_eq_symm _ _).trans q))) rfl ?_
          refine o_iconst W713 (v := 1) (pc' := 191) (hb hy at_190) rfl rfl ?_
          refine o_goto W713 (pc' := 195) (hb hy at_191) (by decide) rfl ?_
          exact o_retN W713 hlk (t := .boolean) hret (by simp) (z' := (1 : Int32)) (by decide) (hb hy at_195) (by decide) (by decide) rfl
    · refine o_static W27 (y := (⟨"com/example/plebiscite/plebiscite/core/ConstraintOtherPinLaw", "kindOf", "(I)Lcom/example/plebiscite/plebiscite/core/Constraint$Kind;"⟩ : MethodName)) (w33 hw) (w34 hw) (w35 hw) (w36 hw) (by decide) (argsL := [(.int p2)]) (CtrN.back (Wd := 2) W27 (rm29 l Z a0 hw gA p2 h27 W27.old hq28 SgA_NOT_AFTER) (w36 hw) (w35 hw) (by decide) (by decide)) (by rw [hml]; rfl) (lenOf pd1 rfl) (S := [(.ref b27), (.ref b27)]) rfl (by exact Nat.le_of_eq rfl) (pc' := 143) (hb hy at_140) rfl (cells' := 11) (slots' := 31) rfl rfl (by decide) (by decide) (wy := []) (fun _ _ _ q => ⟨q.1, q.2.1⟩) all0 (fun _ _ => trivial) ?_
      intro v714 T714 h714 lo714 W714 K714 q714
      obtain rfl := q714.2.2
      show Gl _ _ _ _ _ _ _ _ [(.ref gA), (.ref b27), (.ref b27)]
      refine o_aload W714 (pc' := 145) (hb hy at_143) rfl rfl rfl ?_
      refine o_aload W714 (pc' := 147) (hb hy at_145) rfl rfl rfl ?_
      have c715 := (Fb27_kind.keep K714 nin0)
      have c716 := (Fb27_first.keep K714 nin0)
      have c717 := (Fb27_second.keep K714 nin0)
      have c718 := (A27.keep K714)
      refine o_special W714 (y := (⟨"com/example/plebiscite/plebiscite/core/Constraint", "<init>", "(Lcom/example/plebiscite/plebiscite/core/Constraint$Kind;Ljava/lang/String;Ljava/lang/String;)V"⟩ : MethodName)) rfl (w41 hw) (w42 hw) (w43 hw) (by decide) (a := b27) (argsL := [(.ref gA), (.ref b7), (.ref b11)]) (CtrN.back (Wd := 1) W714 (rm30 l Z a0 hw gN gA b27 b7 b11 h714 W714.old SgN_NON_COMMUTING negAgN c718 c715 gz27 c716 c717) (w43 hw) (w32 hw) (by decide) (by decide)) (by rw [hml]; rfl) (lenOf pd9 rfl) (S := [(.ref b27)]) rfl (by exact Nat.le_of_eq rfl) (pc' := 150) (hb hy at_147) rfl (cells' := 11) (slots' := 31) rfl rfl (by decide) (by decide) (wy := [b27]) (fun _ _ _ q => ⟨q.1, q.2.1⟩) (allS ⟨gz27, (Or.inr gb27)⟩ all0) (fun _ _ => trivial) ?_
      intro v719 T719 h719 lo719 W719 K719 q719
      obtain ⟨P719_0, P719_1, P719_2, rfl⟩ := q719.2.2
      show Gl _ _ _ _ _ _ _ _ [(.ref b27)]
      refine o_astore W719 (L' := #[.val (.int p0), .val (.int p1), .val (.int p2), .val (.int 0), .val (.ref b1), .val (.ref b4), .val (.ref b7), .val (.ref b11), .val (.ref b15), .val (.ref b21), .val (.ref b27), .unset, .unset]) (pc' := 152) (hb hy at_150) rfl rfl rfl ?_
      refine o_aload W719 (pc' := 154) (hb hy at_152) rfl rfl rfl ?_
      refine o_aload W719 (pc' := 156) (hb hy at_154) rfl rfl rfl ?_
      have c720 := ((X10.ext E11).keep K14)
      have c721 := ((c720.ext E15).keep K20)
      have c722 := ((c721.ext E21).keep K26)
      have c723 := (((((((((Fv10.ext E11).keep K14 (ninS (own_ne X10.lt ge11) nin0)).ext E15).keep K20 (ninS (own_ne c720.lt ge15) nin0)).ext E21).keep K26 (ninS (own_ne c721.lt ge21) nin0)).ext E27).keep K714 nin0).keep K719 (ninS (own_ne c722.lt ge27) nin0))
      have c724 := (((((((((Fc10.ext E11).keep K14 (ninS (own_ne X10.lt ge11) nin0)).ext E15).keep K20 (ninS (own_ne c720.lt ge15) nin0)).ext E21).keep K26 (ninS (own_ne c721.lt ge21) nin0)).ext E27).keep K714 nin0).keep K719 (ninS (own_ne c722.lt ge27) nin0))
      have c725 := ((B10.ext E11).keep K14 (ninS (own_ne B10.lt ge11) nin0))
      have c726 := ((c725.ext E15).keep K20 (ninS (own_ne c725.lt ge15) nin0))
      have c727 := ((c726.ext E21).keep K26 (ninS (own_ne c726.lt ge21) nin0))
      have c728 := (((((((((B10.ext E11).keep K14 (ninS (own_ne B10.lt ge11) nin0)).ext E15).keep K20 (ninS (own_ne c725.lt ge15) nin0)).ext E21).keep K26 (ninS (own_ne c726.lt ge21) nin0)).ext E27).keep K714 nin0).keep K719 (ninS (own_ne c727.lt ge27) nin0))
      have c729 := ((X20.ext E21).keep K26)
      have c730 := (((((Fv20.ext E21).keep K26 (ninS (own_ne X20.lt ge21) nin0)).ext E27).keep K714 nin0).keep K719 (ninS (own_ne c729.lt ge27) nin0))
      have c731 := (((((Fc20.ext E21).keep K26 (ninS (own_ne X20.lt ge21) nin0)).ext E27).keep K714 nin0).keep K719 (ninS (own_ne c729.lt ge27) nin0))
      have c732 := ((B20.ext E21).keep K26 (ninS (own_ne B20.lt ge21) nin0))
      have c733 := (((((B20.ext E21).keep K26 (ninS (own_ne B20.lt ge21) nin0)).ext E27).keep K714 nin0).keep K719 (ninS (own_ne c732.lt ge27) nin0))
      have c734 := (((c722.ext E27).keep K714).keep K719)
      have c735 := (((c729.ext E27).keep K714).keep K719)
      have c736 := (c718.keep K719)
      refine o_virtual W719 (y := (⟨"com/example/plebiscite/plebiscite/core/Constraint", "other", "(Ljava/lang/String;)Ljava/lang/String;"⟩ : MethodName)) (z := (⟨"com/example/plebiscite/plebiscite/core/Constraint", "other", "(Ljava/lang/String;)Ljava/lang/String;"⟩ : MethodName)) (w85 hw) (w86 hw) (o_nf W719 rfl (w88 hw)) (w88 hw) (w87 hw) (by decide) c736 (argsL := [(.ref b15)]) (CtrN.back (Wd := 0) W719 (rm10 l Z a0 hw gCS b27 b15 b7 t10 kb10 (p0 &&& (255 : Int32)) (((p0.toUInt32 >>> ((8 : Int32) &&& 31).toUInt32).toInt32) &&& (255 : Int32)) t20 kb20 b11 h719 W719.old P719_1 c734 SgCS NgCS c723 c724 c728 (own_b255 _) (own_b255 _) c735 c730 c731 c733 P719_2) (w89 hw) (w32 hw) (by decide) (by decide)) (by rw [hml]; rfl) (lenOf pd11 rfl) (S := []) rfl (by exact Nat.le_of_eq rfl) (pc' := 159) (hb hy at_156) rfl (cells' := 11) (slots' := 31) rfl rfl (by decide) (by decide) (wy := []) (fun _ _ _ q => ⟨q.1, q.2.1⟩) all0 (fun _ _ => trivial) ?_
      intro v737 T737 h737 lo737 W737 K737 q737
      obtain rfl := q737.2.2
      show Gl _ _ _ _ _ _ _ _ [(.ref b11)]
      refine o_astore W737 (L' := #[.val (.int p0), .val (.int p1), .val (.int p2), .val (.int 0), .val (.ref b1), .val (.ref b4), .val (.ref b7), .val (.ref b11), .val (.ref b15), .val (.ref b21), .val (.ref b27), .val (.ref b11), .unset]) (pc' := 161) (hb hy at_159) rfl rfl rfl ?_
      refine o_aload W737 (pc' := 163) (hb hy at_161) rfl rfl rfl ?_
      refine o_aload W737 (pc' := 165) (hb hy at_163) rfl rfl rfl ?_
      by_cases hq745 : (own_eq [(p0 &&& (255 : Int32)), (((p0.toUInt32 >>> ((8 : Int32) &&& 31).toUInt32).toInt32) &&& (255 : Int32))] [(p1 &&& (255 : Int32)), (((p1.toUInt32 >>> ((8 : Int32) &&& 31).toUInt32).toInt32) &&& (255 : Int32))]) = (0 : Int32)
      · have c746 := (P719_1.keep K737 nin0)
        have c747 := (c723.keep K737 nin0)
        have c748 := (c724.keep K737 nin0)
        have c749 := (c728.keep K737 nin0)
        have c750 := ((((Fv26.ext E27).keep K714 nin0).keep K719 (ninS (own_ne X26.lt ge27) nin0)).keep K737 nin0)
        have c751 := ((((Fc26.ext E27).keep K714 nin0).keep K719 (ninS (own_ne X26.lt ge27) nin0)).keep K737 nin0)
        have c752 := ((((B26.ext E27).keep K714 nin0).keep K719 (ninS (own_ne B26.lt ge27) nin0)).keep K737 nin0)
        have c753 := (c734.keep K737)
        have c754 := ((((X26.ext E27).keep K714).keep K719).keep K737)
        have c755 := (c736.keep K737)
        refine o_virtual W737 (y := (⟨"com/example/plebiscite/plebiscite/core/Constraint", "other", "(Ljava/lang/String;)Ljava/lang/String;"⟩ : MethodName)) (z := (⟨"com/example/plebiscite/plebiscite/core/Constraint", "other", "(Ljava/lang/String;)Ljava/lang/String;"⟩ : MethodName)) (w85 hw) (w86 hw) (o_nf W737 rfl (w88 hw)) (w88 hw) (w87 hw) (by decide) c755 (argsL := [(.ref b21)]) (CtrN.back (Wd := 0) W737 (rm11 l Z a0 hw gCS b27 b21 b7 t10 kb10 (p0 &&& (255 : Int32)) (((p0.toUInt32 >>> ((8 : Int32) &&& 31).toUInt32).toInt32) &&& (255 : Int32)) t26 kb26 (p1 &&& (255 : Int32)) (((p1.toUInt32 >>> ((8 : Int32) &&& 31).toUInt32).toInt32) &&& (255 : Int32)) h737 W737.old c746 c753 SgCS NgCS c747 c748 c749 (own_b255 _) (own_b255 _) c754 c750 c751 c752 (own_b255 _) (own_b255 _) hq745) (w89 hw) (w32 hw) (by decide) (by decide)) (by rw [hml]; rfl) (lenOf pd11 rfl) (S := []) rfl (by exact Nat.le_of_eq rfl) (pc' := 168) (hb hy at_165) rfl (cells' := 11) (slots' := 31) rfl rfl (by decide) (by decide) (wy := []) (fun _ _ _ q => ⟨q.1, q.2.1⟩) all0 (fun _ _ => trivial) ?_
        intro v756 T756 h756 lo756 W756 K756 q756
        obtain rfl := q756.2.2
        show Gl _ _ _ _ _ _ _ _ [(.ref b7)]
        refine o_astore W756 (L' := #[.val (.int p0), .val (.int p1), .val (.int p2), .val (.int 0), .val (.ref b1), .val (.ref b4), .val (.ref b7), .val (.ref b11), .val (.ref b15), .val (.ref b21), .val (.ref b27), .val (.ref b11), .val (.ref b7)]) (pc' := 170) (hb hy at_168) rfl rfl rfl ?_
        refine o_aload W756 (pc' := 172) (hb hy at_170) rfl rfl rfl ?_
        refine o_aload W756 (pc' := 174) (hb hy at_172) rfl rfl rfl ?_
        have c757 := (((((((((X14.ext E15).keep K20).ext E21).keep K26).ext E27).keep K714).keep K719).keep K737).keep K756)
        have c758 := ((X14.ext E15).keep K20)
        have c759 := ((c758.ext E21).keep K26)
        have c760 := (((((((((Fv14.ext E15).keep K20 (ninS (own_ne X14.lt ge15) nin0)).ext E21).keep K26 (ninS (own_ne c758.lt ge21) nin0)).ext E27).keep K714 nin0).keep K719 (ninS (own_ne c759.lt ge27) nin0)).keep K737 nin0).keep K756 nin0)
        have c761 := (((((((((Fc14.ext E15).keep K20 (ninS (own_ne X14.lt ge15) nin0)).ext E21).keep K26 (ninS (own_ne c758.lt ge21) nin0)).ext E27).keep K714 nin0).keep K719 (ninS (own_ne c759.lt ge27) nin0)).keep K737 nin0).keep K756 nin0)
        have c762 := ((B14.ext E15).keep K20 (ninS (own_ne B14.lt ge15) nin0))
        have c763 := ((c762.ext E21).keep K26 (ninS (own_ne c762.lt ge21) nin0))
        have c764 := (((((((((B14.ext E15).keep K20 (ninS (own_ne B14.lt ge15) nin0)).ext E21).keep K26 (ninS (own_ne c762.lt ge21) nin0)).ext E27).keep K714 nin0).keep K719 (ninS (own_ne c763.lt ge27) nin0)).keep K737 nin0).keep K756 nin0)
        have ok765 : own_ok [(p1 &&& (255 : Int32)), (((p1.toUInt32 >>> ((8 : Int32) &&& 31).toUInt32).toInt32) &&& (255 : Int32))] := ok25
        have ok766 : own_ok [(p1 &&& (255 : Int32)), (((p1.toUInt32 >>> ((8 : Int32) &&& 31).toUInt32).toInt32) &&& (255 : Int32))] := ok25
        refine o_virtual W756 (y := (⟨"java/lang/String", "equals", "(Ljava/lang/Object;)Z"⟩ : MethodName)) (z := (⟨"java/lang/String", "equals", "(Ljava/lang/Object;)Z"⟩ : MethodName)) (kc := 0) (ks := 0) (Q := fun v hh L => ((v = some (.int 1) ∧ [(p1 &&& (255 : Int32)), (((p1.toUInt32 >>> ((8 : Int32) &&& 31).toUInt32).toInt32) &&& (255 : Int32))] = [(p1 &&& (255 : Int32)), (((p1.toUInt32 >>> ((8 : Int32) &&& 31).toUInt32).toInt32) &&& (255 : Int32))]) ∨ (v = some (.int 0) ∧ ¬ [(p1 &&& (255 : Int32)), (((p1.toUInt32 >>> ((8 : Int32) &&& 31).toUInt32).toInt32) &&& (255 : Int32))] = [(p1 &&& (255 : Int32)), (((p1.toUInt32 >>> ((8 : Int32) &&& 31).toUInt32).toInt32) &&& (255 : Int32))])) ∧ L = [] ∧ hh = h756) (w99 hw) (w91 hw) (o_nf W756 rfl (w93 hw)) (w93 hw) (w92 hw) (by decide) c757 (argsL := [(.ref b11)]) (StrChars.Road.eqW (W := 0) W756.2.2.2.1 (own_hE hw) (kI := 4) (w2 hw) c757 c760 c761 c764 (own_cod ok765) (own_up ok765) ok765.2 c757 c760 c761 c764 (own_cod ok766) (own_up ok766) ok766.2 (SgCS.ext W756.ox) NgCS (by decide) (by decide)) (by rw [hml]; rfl) (lenOf pd10 rfl) (S := []) rfl (by exact Nat.le_of_eq rfl) (pc' := 177) (hb hy at_174) rfl (cells' := 11) (slots' := 31) rfl rfl (by decide) (by decide) (wy := []) (fun _ _ _ q => own_same q.2) all0 (fun _ _ => trivial) ?_
        intro v767 T767 h767 lo767 W767 K767 q767
        obtain rfl := own_eqv q767.1
        show Gl _ _ _ _ _ _ _ _ [(.int (own_eq [(p1 &&& (255 : Int32)), (((p1.toUInt32 >>> ((8 : Int32) &&& 31).toUInt32).toInt32) &&& (255 : Int32))] [(p1 &&& (255 : Int32)), (((p1.toUInt32 >>> ((8 : Int32) &&& 31).toUInt32).toInt32) &&& (255 : Int32))]))]
        refine o_ifN W767 (pc' := 180) (hb hy at_177) (XT.i0_eq_f (own_eqne _)) rfl ?_
        refine o_aload W767 (pc' := 182) (hb hy at_180) rfl rfl rfl ?_
        refine o_aload W767 (pc' := 184) (hb hy at_182) rfl rfl rfl ?_
        have c768 := ((c753.keep K756).keep K767)
        have c769 := ((c747.keep K756 nin0).keep K767 nin0)
        have c770 := ((c748.keep K756 nin0).keep K767 nin0)
        have c771 := ((c749.keep K756 nin0).keep K767 nin0)
        have ok772 : own_ok [(p0 &&& (255 : Int32)), (((p0.toUInt32 >>> ((8 : Int32) &&& 31).toUInt32).toInt32) &&& (255 : Int32))] := ok19
        have ok773 : own_ok [(p0 &&& (255 : Int32)), (((p0.toUInt32 >>> ((8 : Int32) &&& 31).toUInt32).toInt32) &&& (255 : Int32))] := ok19
        refine o_virtual W767 (y := (⟨"java/lang/String", "equals", "(Ljava/lang/Object;)Z"⟩ : MethodName)) (z := (⟨"java/lang/String", "equals", "(Ljava/lang/Object;)Z"⟩ : MethodName)) (kc := 0) (ks := 0) (Q := fun v hh L => ((v = some (.int 1) ∧ [(p0 &&& (255 : Int32)), (((p0.toUInt32 >>> ((8 : Int32) &&& 31).toUInt32).toInt32) &&& (255 : Int32))] = [(p0 &&& (255 : Int32)), (((p0.toUInt32 >>> ((8 : Int32) &&& 31).toUInt32).toInt32) &&& (255 : Int32))]) ∨ (v = some (.int 0) ∧ ¬ [(p0 &&& (255 : Int32)), (((p0.toUInt32 >>> ((8 : Int32) &&& 31).toUInt32).toInt32) &&& (255 : Int32))] = [(p0 &&& (255 : Int32)), (((p0.toUInt32 >>> ((8 : Int32) &&& 31).toUInt32).toInt32) &&& (255 : Int32))])) ∧ L = [] ∧ hh = h767) (w99 hw) (w91 hw) (o_nf W767 rfl (w93 hw)) (w93 hw) (w92 hw) (by decide) c768 (argsL := [(.ref b7)]) (StrChars.Road.eqW (W := 0) W767.2.2.2.1 (own_hE hw) (kI := 4) (w2 hw) c768 c769 c770 c771 (own_cod ok772) (own_up ok772) ok772.2 c768 c769 c770 c771 (own_cod ok773) (own_up ok773) ok773.2 (SgCS.ext W767.ox) NgCS (by decide) (by decide)) (by rw [hml]; rfl) (lenOf pd10 rfl) (S := []) rfl (by exact Nat.le_of_eq rfl) (pc' := 187) (hb hy at_184) rfl (cells' := 11) (slots' := 31) rfl rfl (by decide) (by decide) (wy := []) (fun _ _ _ q => own_same q.2) all0 (fun _ _ => trivial) ?_
        intro v774 T774 h774 lo774 W774 K774 q774
        obtain rfl := own_eqv q774.1
        show Gl _ _ _ _ _ _ _ _ [(.int (own_eq [(p0 &&& (255 : Int32)), (((p0.toUInt32 >>> ((8 : Int32) &&& 31).toUInt32).toInt32) &&& (255 : Int32))] [(p0 &&& (255 : Int32)), (((p0.toUInt32 >>> ((8 : Int32) &&& 31).toUInt32).toInt32) &&& (255 : Int32))]))]
        refine o_ifN W774 (pc' := 190) (hb hy at_187) (XT.i0_eq_f (own_eqne _)) rfl ?_
        refine o_iconst W774 (v := 1) (pc' := 191) (hb hy at_190) rfl rfl ?_
        refine o_goto W774 (pc' := 195) (hb hy at_191) (by decide) rfl ?_
        exact o_retN W774 hlk (t := .boolean) hret (by simp) (z' := (1 : Int32)) (by decide) (hb hy at_195) (by decide) (by decide) rfl
      · have c775 := (P719_1.keep K737 nin0)
        have c776 := (c723.keep K737 nin0)
        have c777 := (c724.keep K737 nin0)
        have c778 := (c728.keep K737 nin0)
        have c779 := ((((Fv26.ext E27).keep K714 nin0).keep K719 (ninS (own_ne X26.lt ge27) nin0)).keep K737 nin0)
        have c780 := ((((Fc26.ext E27).keep K714 nin0).keep K719 (ninS (own_ne X26.lt ge27) nin0)).keep K737 nin0)
        have c781 := ((((B26.ext E27).keep K714 nin0).keep K719 (ninS (own_ne B26.lt ge27) nin0)).keep K737 nin0)
        have c782 := (P719_2.keep K737 nin0)
        have c783 := (c734.keep K737)
        have c784 := ((((X26.ext E27).keep K714).keep K719).keep K737)
        have c785 := (c736.keep K737)
        refine o_virtual W737 (y := (⟨"com/example/plebiscite/plebiscite/core/Constraint", "other", "(Ljava/lang/String;)Ljava/lang/String;"⟩ : MethodName)) (z := (⟨"com/example/plebiscite/plebiscite/core/Constraint", "other", "(Ljava/lang/String;)Ljava/lang/String;"⟩ : MethodName)) (w85 hw) (w86 hw) (o_nf W737 rfl (w88 hw)) (w88 hw) (w87 hw) (by decide) c785 (argsL := [(.ref b21)]) (CtrN.back (Wd := 0) W737 (rm12 l Z a0 hw gCS b27 b21 b7 t10 kb10 (p0 &&& (255 : Int32)) (((p0.toUInt32 >>> ((8 : Int32) &&& 31).toUInt32).toInt32) &&& (255 : Int32)) t26 kb26 (p1 &&& (255 : Int32)) (((p1.toUInt32 >>> ((8 : Int32) &&& 31).toUInt32).toInt32) &&& (255 : Int32)) b11 h737 W737.old c775 c783 SgCS NgCS c776 c777 c778 (own_b255 _) (own_b255 _) c784 c779 c780 c781 (own_b255 _) (own_b255 _) hq745 c782) (w89 hw) (w32 hw) (by decide) (by decide)) (by rw [hml]; rfl) (lenOf pd11 rfl) (S := []) rfl (by exact Nat.le_of_eq rfl) (pc' := 168) (hb hy at_165) rfl (cells' := 11) (slots' := 31) rfl rfl (by decide) (by decide) (wy := []) (fun _ _ _ q => ⟨q.1, q.2.1⟩) all0 (fun _ _ => trivial) ?_
        intro v786 T786 h786 lo786 W786 K786 q786
        obtain rfl := q786.2.2
        show Gl _ _ _ _ _ _ _ _ [(.ref b11)]
        refine o_astore W786 (L' := #[.val (.int p0), .val (.int p1), .val (.int p2), .val (.int 0), .val (.ref b1), .val (.ref b4), .val (.ref b7), .val (.ref b11), .val (.ref b15), .val (.ref b21), .val (.ref b27), .val (.ref b11), .val (.ref b11)]) (pc' := 170) (hb hy at_168) rfl rfl rfl ?_
        refine o_aload W786 (pc' := 172) (hb hy at_170) rfl rfl rfl ?_
        refine o_aload W786 (pc' := 174) (hb hy at_172) rfl rfl rfl ?_
        have c787 := (((((((((X14.ext E15).keep K20).ext E21).keep K26).ext E27).keep K714).keep K719).keep K737).keep K786)
        have c788 := ((X14.ext E15).keep K20)
        have c789 := ((c788.ext E21).keep K26)
        have c790 := (((((((((Fv14.ext E15).keep K20 (ninS (own_ne X14.lt ge15) nin0)).ext E21).keep K26 (ninS (own_ne c788.lt ge21) nin0)).ext E27).keep K714 nin0).keep K719 (ninS (own_ne c789.lt ge27) nin0)).keep K737 nin0).keep K786 nin0)
        have c791 := (((((((((Fc14.ext E15).keep K20 (ninS (own_ne X14.lt ge15) nin0)).ext E21).keep K26 (ninS (own_ne c788.lt ge21) nin0)).ext E27).keep K714 nin0).keep K719 (ninS (own_ne c789.lt ge27) nin0)).keep K737 nin0).keep K786 nin0)
        have c792 := ((B14.ext E15).keep K20 (ninS (own_ne B14.lt ge15) nin0))
        have c793 := ((c792.ext E21).keep K26 (ninS (own_ne c792.lt ge21) nin0))
        have c794 := (((((((((B14.ext E15).keep K20 (ninS (own_ne B14.lt ge15) nin0)).ext E21).keep K26 (ninS (own_ne c792.lt ge21) nin0)).ext E27).keep K714 nin0).keep K719 (ninS (own_ne c793.lt ge27) nin0)).keep K737 nin0).keep K786 nin0)
        have ok795 : own_ok [(p1 &&& (255 : Int32)), (((p1.toUInt32 >>> ((8 : Int32) &&& 31).toUInt32).toInt32) &&& (255 : Int32))] := ok25
        have ok796 : own_ok [(p1 &&& (255 : Int32)), (((p1.toUInt32 >>> ((8 : Int32) &&& 31).toUInt32).toInt32) &&& (255 : Int32))] := ok25
        refine o_virtual W786 (y := (⟨"java/lang/String", "equals", "(Ljava/lang/Object;)Z"⟩ : MethodName)) (z := (⟨"java/lang/String", "equals", "(Ljava/lang/Object;)Z"⟩ : MethodName)) (kc := 0) (ks := 0) (Q := fun v hh L => ((v = some (.int 1) ∧ [(p1 &&& (255 : Int32)), (((p1.toUInt32 >>> ((8 : Int32) &&& 31).toUInt32).toInt32) &&& (255 : Int32))] = [(p1 &&& (255 : Int32)), (((p1.toUInt32 >>> ((8 : Int32) &&& 31).toUInt32).toInt32) &&& (255 : Int32))]) ∨ (v = some (.int 0) ∧ ¬ [(p1 &&& (255 : Int32)), (((p1.toUInt32 >>> ((8 : Int32) &&& 31).toUInt32).toInt32) &&& (255 : Int32))] = [(p1 &&& (255 : Int32)), (((p1.toUInt32 >>> ((8 : Int32) &&& 31).toUInt32).toInt32) &&& (255 : Int32))])) ∧ L = [] ∧ hh = h786) (w99 hw) (w91 hw) (o_nf W786 rfl (w93 hw)) (w93 hw) (w92 hw) (by decide) c787 (argsL := [(.ref b11)]) (StrChars.Road.eqW (W := 0) W786.2.2.2.1 (own_hE hw) (kI := 4) (w2 hw) c787 c790 c791 c794 (own_cod ok795) (own_up ok795) ok795.2 c787 c790 c791 c794 (own_cod ok796) (own_up ok796) ok796.2 (SgCS.ext W786.ox) NgCS (by decide) (by decide)) (by rw [hml]; rfl) (lenOf pd10 rfl) (S := []) rfl (by exact Nat.le_of_eq rfl) (pc' := 177) (hb hy at_174) rfl (cells' := 11) (slots' := 31) rfl rfl (by decide) (by decide) (wy := []) (fun _ _ _ q => own_same q.2) all0 (fun _ _ => trivial) ?_
        intro v797 T797 h797 lo797 W797 K797 q797
        obtain rfl := own_eqv q797.1
        show Gl _ _ _ _ _ _ _ _ [(.int (own_eq [(p1 &&& (255 : Int32)), (((p1.toUInt32 >>> ((8 : Int32) &&& 31).toUInt32).toInt32) &&& (255 : Int32))] [(p1 &&& (255 : Int32)), (((p1.toUInt32 >>> ((8 : Int32) &&& 31).toUInt32).toInt32) &&& (255 : Int32))]))]
        refine o_ifN W797 (pc' := 180) (hb hy at_177) (XT.i0_eq_f (own_eqne _)) rfl ?_
        refine o_aload W797 (pc' := 182) (hb hy at_180) rfl rfl rfl ?_
        refine o_aload W797 (pc' := 184) (hb hy at_182) rfl rfl rfl ?_
        have c798 := (c787.keep K797)
        have c799 := (c790.keep K797 nin0)
        have c800 := (c791.keep K797 nin0)
        have c801 := (c794.keep K797 nin0)
        have c802 := ((c783.keep K786).keep K797)
        have c803 := ((c776.keep K786 nin0).keep K797 nin0)
        have c804 := ((c777.keep K786 nin0).keep K797 nin0)
        have c805 := ((c778.keep K786 nin0).keep K797 nin0)
        have ok806 : own_ok [(p1 &&& (255 : Int32)), (((p1.toUInt32 >>> ((8 : Int32) &&& 31).toUInt32).toInt32) &&& (255 : Int32))] := ok25
        have ok807 : own_ok [(p0 &&& (255 : Int32)), (((p0.toUInt32 >>> ((8 : Int32) &&& 31).toUInt32).toInt32) &&& (255 : Int32))] := ok19
        refine o_virtual W797 (y := (⟨"java/lang/String", "equals", "(Ljava/lang/Object;)Z"⟩ : MethodName)) (z := (⟨"java/lang/String", "equals", "(Ljava/lang/Object;)Z"⟩ : MethodName)) (kc := 0) (ks := 0) (Q := fun v hh L => ((v = some (.int 1) ∧ [(p1 &&& (255 : Int32)), (((p1.toUInt32 >>> ((8 : Int32) &&& 31).toUInt32).toInt32) &&& (255 : Int32))] = [(p0 &&& (255 : Int32)), (((p0.toUInt32 >>> ((8 : Int32) &&& 31).toUInt32).toInt32) &&& (255 : Int32))]) ∨ (v = some (.int 0) ∧ ¬ [(p1 &&& (255 : Int32)), (((p1.toUInt32 >>> ((8 : Int32) &&& 31).toUInt32).toInt32) &&& (255 : Int32))] = [(p0 &&& (255 : Int32)), (((p0.toUInt32 >>> ((8 : Int32) &&& 31).toUInt32).toInt32) &&& (255 : Int32))])) ∧ L = [] ∧ hh = h797) (w99 hw) (w91 hw) (o_nf W797 rfl (w93 hw)) (w93 hw) (w92 hw) (by decide) c798 (argsL := [(.ref b7)]) (StrChars.Road.eqW (W := 0) W797.2.2.2.1 (own_hE hw) (kI := 4) (w2 hw) c798 c799 c800 c801 (own_cod ok806) (own_up ok806) ok806.2 c802 c803 c804 c805 (own_cod ok807) (own_up ok807) ok807.2 (SgCS.ext W797.ox) NgCS (by decide) (by decide)) (by rw [hml]; rfl) (lenOf pd10 rfl) (S := []) rfl (by exact Nat.le_of_eq rfl) (pc' := 187) (hb hy at_184) rfl (cells' := 11) (slots' := 31) rfl rfl (by decide) (by decide) (wy := []) (fun _ _ _ q => own_same q.2) all0 (fun _ _ => trivial) ?_
        intro v808 T808 h808 lo808 W808 K808 q808
        obtain rfl := own_eqv q808.1
        show Gl _ _ _ _ _ _ _ _ [(.int (own_eq [(p1 &&& (255 : Int32)), (((p1.toUInt32 >>> ((8 : Int32) &&& 31).toUInt32).toInt32) &&& (255 : Int32))] [(p0 &&& (255 : Int32)), (((p0.toUInt32 >>> ((8 : Int32) &&& 31).toUInt32).toInt32) &&& (255 : Int32))]))]
        refine o_ifN W808 (pc' := 190) (hb hy at_187) (XT.i0_eq_f (fun q => hq745 ((own_eq_symm _ _).trans q))) rfl ?_
        refine o_iconst W808 (v := 1) (pc' := 191) (hb hy at_190) rfl rfl ?_
        refine o_goto W808 (pc' := 195) (hb hy at_191) (by decide) rfl ?_
        exact o_retN W808 hlk (t := .boolean) hret (by simp) (z' := (1 : Int32)) (by decide) (hb hy at_195) (by decide) (by decide) rfl
  · refine o_ifN W0 (pc' := 6) (hb hy at_3) (XT.i0_eq_f hf) rfl ?_
    refine o_iconst W0 (v := 1) (pc' := 7) (hb hy at_6) rfl rfl ?_
    refine o_goto W0 (pc' := 11) (hb hy at_7) (by decide) rfl ?_
    refine o_istoreN W0 (L' := #[.val (.int p0), .val (.int p1), .val (.int p2), .val (.int 1), .unset, .unset, .unset, .unset, .unset, .unset, .unset, .unset, .unset]) (pc' := 12) (hb hy at_11) rfl rfl ?_
    refine o_iconst W0 (v := 2) (pc' := 13) (hb hy at_12) rfl rfl ?_
    refine o_newP W0 (aty := .char) (w0 hw) (fun _ _ => trivial) (by decide) (cap := 2) (by decide) (by decide) (pc' := 15) (hb hy at_13) rfl (cells' := 1) (slots' := 2) rfl rfl (by decide) (by decide) (vs := [(.int 0), (.int 0)]) (dv := (.int 0)) rfl rfl ?_
    intro b809 T809 h809 k809 W809 E809 ge809 gz809 gb809 V809
    refine o_astore W809 (L' := #[.val (.int p0), .val (.int p1), .val (.int p2), .val (.int 1), .val (.ref b809), .unset, .unset, .unset, .unset, .unset, .unset, .unset, .unset]) (pc' := 17) (hb hy at_15) rfl rfl rfl ?_
    refine o_aload W809 (pc' := 19) (hb hy at_17) rfl rfl rfl ?_
    refine o_iconst W809 (v := 0) (pc' := 20) (hb hy at_19) rfl rfl ?_
    refine o_iloadN W809 (pc' := 21) (hb hy at_20) rfl rfl ?_
    refine o_sipush W809 (v := 255) (pc' := 24) (hb hy at_21) (by decide) rfl ?_
    refine o_iand W809 (v := (p0 &&& (255 : Int32))) (pc' := 25) (hb hy at_24) rfl rfl ?_
    refine o_i2c W809 (v := (p0 &&& (255 : Int32))) (pc' := 26) (hb hy at_25) (own_i2c (own_b255 _)) rfl ?_
    refine o_stC W809 V809 (i := 0) (x' := (p0 &&& (255 : Int32))) (by decide) (by decide) (by decide) (Nat.lt_of_sub_eq_succ rfl) (own_i2c (own_b255 _)) (vs' := [(.int (p0 &&& (255 : Int32))), (.int 0)]) rfl gz809 (Or.inr gb809) (fun _ _ => trivial) (pc' := 27) (hb hy at_26) rfl ?_
    intro T810 h810 lo810 W810 R810 V810
    refine o_aload W810 (pc' := 29) (hb hy at_27) rfl rfl rfl ?_
    refine o_iconst W810 (v := 1) (pc' := 30) (hb hy at_29) rfl rfl ?_
    refine o_iloadN W810 (pc' := 31) (hb hy at_30) rfl rfl ?_
    refine o_bipush W810 (v := 8) (pc' := 33) (hb hy at_31) (by decide) rfl ?_
    refine o_iushr W810 (v := ((p0.toUInt32 >>> ((8 : Int32) &&& 31).toUInt32).toInt32)) (pc' := 34) (hb hy at_33) rfl rfl ?_
    refine o_sipush W810 (v := 255) (pc' := 37) (hb hy at_34) (by decide) rfl ?_
    refine o_iand W810 (v := (((p0.toUInt32 >>> ((8 : Int32) &&& 31).toUInt32).toInt32) &&& (255 : Int32))) (pc' := 38) (hb hy at_37) rfl rfl ?_
    refine o_i2c W810 (v := (((p0.toUInt32 >>> ((8 : Int32) &&& 31).toUInt32).toInt32) &&& (255 : Int32))) (pc' := 39) (hb hy at_38) (own_i2c (own_b255 _)) rfl ?_
    refine o_stC W810 V810 (i := 1) (x' := (((p0.toUInt32 >>> ((8 : Int32) &&& 31).toUInt32).toInt32) &&& (255 : Int32))) (by decide) (by decide) (by decide) (Nat.lt_of_sub_eq_succ rfl) (own_i2c (own_b255 _)) (vs' := [(.int (p0 &&& (255 : Int32))), (.int (((p0.toUInt32 >>> ((8 : Int32) &&& 31).toUInt32).toInt32) &&& (255 : Int32)))]) rfl gz809 (Or.inr gb809) (fun _ _ => trivial) (pc' := 40) (hb hy at_39) rfl ?_
    intro T811 h811 lo811 W811 R811 V811
    refine o_iconst W811 (v := 2) (pc' := 41) (hb hy at_40) rfl rfl ?_
    refine o_newP W811 (aty := .char) (w0 hw) (fun _ _ => trivial) (by decide) (cap := 2) (by decide) (by decide) (pc' := 43) (hb hy at_41) rfl (cells' := 2) (slots' := 4) rfl rfl (by decide) (by decide) (vs := [(.int 0), (.int 0)]) (dv := (.int 0)) rfl rfl ?_
    intro b812 T812 h812 k812 W812 E812 ge812 gz812 gb812 V812
    refine o_astore W812 (L' := #[.val (.int p0), .val (.int p1), .val (.int p2), .val (.int 1), .val (.ref b809), .val (.ref b812), .unset, .unset, .unset, .unset, .unset, .unset, .unset]) (pc' := 45) (hb hy at_43) rfl rfl rfl ?_
    refine o_iloadN W812 (pc' := 46) (hb hy at_45) rfl rfl ?_
    refine o_ifN W812 (pc' := 49) (hb hy at_46) (XT.i0_eq_f (by decide)) rfl ?_
    refine o_aload W812 (pc' := 51) (hb hy at_49) rfl rfl rfl ?_
    refine o_iconst W812 (v := 0) (pc' := 52) (hb hy at_51) rfl rfl ?_
    refine o_aload W812 (pc' := 54) (hb hy at_52) rfl rfl rfl ?_
    refine o_iconst W812 (v := 0) (pc' := 55) (hb hy at_54) rfl rfl ?_
    have c813 := (V811.ext E812)
    refine o_caload W812 c813 (x := (p0 &&& (255 : Int32))) (i := 0) (by decide) (by decide) (by decide) rfl (pc' := 56) (hb hy at_55) rfl ?_
    refine o_stC W812 V812 (i := 0) (x' := (p0 &&& (255 : Int32))) (by decide) (by decide) (by decide) (Nat.lt_of_sub_eq_succ rfl) (own_i2c (own_b255 _)) (vs' := [(.int (p0 &&& (255 : Int32))), (.int 0)]) rfl gz812 (Or.inr gb812) (fun _ _ => trivial) (pc' := 57) (hb hy at_56) rfl ?_
    intro T814 h814 lo814 W814 R814 V814
    refine o_aload W814 (pc' := 59) (hb hy at_57) rfl rfl rfl ?_
    refine o_iconst W814 (v := 1) (pc' := 60) (hb hy at_59) rfl rfl ?_
    refine o_aload W814 (pc' := 62) (hb hy at_60) rfl rfl rfl ?_
    refine o_iconst W814 (v := 1) (pc' := 63) (hb hy at_62) rfl rfl ?_
    have c815 := (c813.other R814 (own_ne V811.lt ge812))
    refine o_caload W814 c815 (x := (((p0.toUInt32 >>> ((8 : Int32) &&& 31).toUInt32).toInt32) &&& (255 : Int32))) (i := 1) (by decide) (by decide) (by decide) rfl (pc' := 64) (hb hy at_63) rfl ?_
    refine o_stC W814 V814 (i := 1) (x' := (((p0.toUInt32 >>> ((8 : Int32) &&& 31).toUInt32).toInt32) &&& (255 : Int32))) (by decide) (by decide) (by decide) (Nat.lt_of_sub_eq_succ rfl) (own_i2c (own_b255 _)) (vs' := [(.int (p0 &&& (255 : Int32))), (.int (((p0.toUInt32 >>> ((8 : Int32) &&& 31).toUInt32).toInt32) &&& (255 : Int32)))]) rfl gz812 (Or.inr gb812) (fun _ _ => trivial) (pc' := 65) (hb hy at_64) rfl ?_
    intro T816 h816 lo816 W816 R816 V816
    refine o_goto W816 (pc' := 91) (hb hy at_65) (by decide) rfl ?_
    refine o_new W816 (w1 hw) (w2 hw) (w3 hw) (fun _ _ => trivial) (pc' := 94) (hb hy at_91) rfl (cells' := 3) (slots' := 8) rfl rfl (by decide) (by decide) ?_
    intro b817 T817 h817 W817 E817 ge817 gz817 gb817 A817 D817
    have Fb817_coder : Fld Z h817 b817 "java/lang/String" "coder" "B" (.int 0) := D817 (Or.inr (w27 hw)) (ty := .byte) (by decide)
    have Fb817_value : Fld Z h817 b817 "java/lang/String" "value" "[B" .null := D817 (Or.inr (w29 hw)) (ty := (.array .byte)) (by decide)
    refine o_dup W817 (pc' := 95) (hb hy at_94) rfl rfl ?_
    refine o_aload W817 (pc' := 97) (hb hy at_95) rfl rfl rfl ?_
    have c818 := ((c815.other R816 (own_ne V811.lt ge812)).ext E817)
    have ok819 : own_ok [(p0 &&& (255 : Int32)), (((p0.toUInt32 >>> ((8 : Int32) &&& 31).toUInt32).toInt32) &&& (255 : Int32))] := ⟨by simp only [List.mem_cons, List.not_mem_nil, or_false, forall_eq_or_imp, forall_eq, false_imp_iff, implies_true]; exact ⟨(own_b255 _), (own_b255 _)⟩, Nat.le_of_ble_eq_true rfl⟩
    refine o_special W817 (y := (⟨"java/lang/String", "<init>", "([C)V"⟩ : MethodName)) rfl (w4 hw) (w5 hw) (w6 hw) (by decide) (a := b817) (argsL := [(.ref b809)]) (StrChars.Road.backV (W := 1) W817.2.2.2.1 (own_hV hw) (kI := 4) (w2 hw) (cs := [(p0 &&& (255 : Int32)), (((p0.toUInt32 >>> ((8 : Int32) &&& 31).toUInt32).toInt32) &&& (255 : Int32))]) (bs := [((p0 &&& (255 : Int32))).toInt8.toInt32, ((((p0.toUInt32 >>> ((8 : Int32) &&& 31).toUInt32).toInt32) &&& (255 : Int32))).toInt8.toInt32]) (n := 2) (n0 := Z.heap.size) gz817 W817.zs A817 Fb817_value Fb817_coder c818 (SgCS.ext W817.ox) NgCS rfl rfl (by decide) (by decide) ok819.1 rfl (by decide) (by decide)) (by rw [hml]; rfl) (lenOf pd0 rfl) (S := [(.ref b817)]) rfl (by exact Nat.le_of_eq rfl) (pc' := 100) (hb hy at_97) rfl (cells' := 4) (slots' := 10) rfl rfl (by decide) (by decide) (wy := [b817]) (fun _ _ _ q => ⟨q.2.1, q.2.2.1⟩) (allS ⟨gz817, (Or.inr gb817)⟩ all0) (fun _ _ => trivial) ?_
    intro v820 T820 h820 lo820 W820 K820 q820
    obtain ⟨rfl, -, -, X820, Fc820, t820, kb820, gz820, ge820, -, Fv820, A820⟩ := q820
    have B820 : Arv Z h820 t820 kb820 .byte (2 : Int32) [(.int (StrChars.lo8 (p0 &&& (255 : Int32)))), (.int (StrChars.lo8 (((p0.toUInt32 >>> ((8 : Int32) &&& 31).toUInt32).toInt32) &&& (255 : Int32))))] (.int 0) := A820
    show Gl _ _ _ _ _ _ _ _ [(.ref b817)]
    refine o_astore W820 (L' := #[.val (.int p0), .val (.int p1), .val (.int p2), .val (.int 1), .val (.ref b809), .val (.ref b812), .val (.ref b817), .unset, .unset, .unset, .unset, .unset, .unset]) (pc' := 102) (hb hy at_100) rfl rfl rfl ?_
    refine o_new W820 (w1 hw) (w2 hw) (w3 hw) (fun _ _ => trivial) (pc' := 105) (hb hy at_102) rfl (cells' := 5) (slots' := 14) rfl rfl (by decide) (by decide) ?_
    intro b821 T821 h821 W821 E821 ge821 gz821 gb821 A821 D821
    have Fb821_coder : Fld Z h821 b821 "java/lang/String" "coder" "B" (.int 0) := D821 (Or.inr (w27 hw)) (ty := .byte) (by decide)
    have Fb821_value : Fld Z h821 b821 "java/lang/String" "value" "[B" .null := D821 (Or.inr (w29 hw)) (ty := (.array .byte)) (by decide)
    refine o_dup W821 (pc' := 106) (hb hy at_105) rfl rfl ?_
    refine o_aload W821 (pc' := 108) (hb hy at_106) rfl rfl rfl ?_
    have c822 := (((V816.ext E817).keep K820 (ninS (own_ne V816.lt ge817) nin0)).ext E821)
    have ok823 : own_ok [(p0 &&& (255 : Int32)), (((p0.toUInt32 >>> ((8 : Int32) &&& 31).toUInt32).toInt32) &&& (255 : Int32))] := ok819
    refine o_special W821 (y := (⟨"java/lang/String", "<init>", "([C)V"⟩ : MethodName)) rfl (w4 hw) (w5 hw) (w6 hw) (by decide) (a := b821) (argsL := [(.ref b812)]) (StrChars.Road.backV (W := 1) W821.2.2.2.1 (own_hV hw) (kI := 4) (w2 hw) (cs := [(p0 &&& (255 : Int32)), (((p0.toUInt32 >>> ((8 : Int32) &&& 31).toUInt32).toInt32) &&& (255 : Int32))]) (bs := [((p0 &&& (255 : Int32))).toInt8.toInt32, ((((p0.toUInt32 >>> ((8 : Int32) &&& 31).toUInt32).toInt32) &&& (255 : Int32))).toInt8.toInt32]) (n := 2) (n0 := Z.heap.size) gz821 W821.zs A821 Fb821_value Fb821_coder c822 (SgCS.ext W821.ox) NgCS rfl rfl (by decide) (by decide) ok823.1 rfl (by decide) (by decide)) (by rw [hml]; rfl) (lenOf pd0 rfl) (S := [(.ref b821)]) rfl (by exact Nat.le_of_eq rfl) (pc' := 111) (hb hy at_108) rfl (cells' := 6) (slots' := 16) rfl rfl (by decide) (by decide) (wy := [b821]) (fun _ _ _ q => ⟨q.2.1, q.2.2.1⟩) (allS ⟨gz821, (Or.inr gb821)⟩ all0) (fun _ _ => trivial) ?_
    intro v824 T824 h824 lo824 W824 K824 q824
    obtain ⟨rfl, -, -, X824, Fc824, t824, kb824, gz824, ge824, -, Fv824, A824⟩ := q824
    have B824 : Arv Z h824 t824 kb824 .byte (2 : Int32) [(.int (StrChars.lo8 (p0 &&& (255 : Int32)))), (.int (StrChars.lo8 (((p0.toUInt32 >>> ((8 : Int32) &&& 31).toUInt32).toInt32) &&& (255 : Int32))))] (.int 0) := A824
    show Gl _ _ _ _ _ _ _ _ [(.ref b821)]
    refine o_astore W824 (L' := #[.val (.int p0), .val (.int p1), .val (.int p2), .val (.int 1), .val (.ref b809), .val (.ref b812), .val (.ref b817), .val (.ref b821), .unset, .unset, .unset, .unset, .unset]) (pc' := 113) (hb hy at_111) rfl rfl rfl ?_
    refine o_new W824 (w1 hw) (w2 hw) (w3 hw) (fun _ _ => trivial) (pc' := 116) (hb hy at_113) rfl (cells' := 7) (slots' := 20) rfl rfl (by decide) (by decide) ?_
    intro b825 T825 h825 W825 E825 ge825 gz825 gb825 A825 D825
    have Fb825_coder : Fld Z h825 b825 "java/lang/String" "coder" "B" (.int 0) := D825 (Or.inr (w27 hw)) (ty := .byte) (by decide)
    have Fb825_value : Fld Z h825 b825 "java/lang/String" "value" "[B" .null := D825 (Or.inr (w29 hw)) (ty := (.array .byte)) (by decide)
    refine o_dup W825 (pc' := 117) (hb hy at_116) rfl rfl ?_
    refine o_aload W825 (pc' := 119) (hb hy at_117) rfl rfl rfl ?_
    have c826 := (c815.other R816 (own_ne V811.lt ge812))
    have c827 := (c818.keep K820 (ninS (own_ne c826.lt ge817) nin0))
    have c828 := ((((c818.keep K820 (ninS (own_ne c826.lt ge817) nin0)).ext E821).keep K824 (ninS (own_ne c827.lt ge821) nin0)).ext E825)
    have ok829 : own_ok [(p0 &&& (255 : Int32)), (((p0.toUInt32 >>> ((8 : Int32) &&& 31).toUInt32).toInt32) &&& (255 : Int32))] := ok823
    refine o_special W825 (y := (⟨"java/lang/String", "<init>", "([C)V"⟩ : MethodName)) rfl (w4 hw) (w5 hw) (w6 hw) (by decide) (a := b825) (argsL := [(.ref b809)]) (StrChars.Road.backV (W := 1) W825.2.2.2.1 (own_hV hw) (kI := 4) (w2 hw) (cs := [(p0 &&& (255 : Int32)), (((p0.toUInt32 >>> ((8 : Int32) &&& 31).toUInt32).toInt32) &&& (255 : Int32))]) (bs := [((p0 &&& (255 : Int32))).toInt8.toInt32, ((((p0.toUInt32 >>> ((8 : Int32) &&& 31).toUInt32).toInt32) &&& (255 : Int32))).toInt8.toInt32]) (n := 2) (n0 := Z.heap.size) gz825 W825.zs A825 Fb825_value Fb825_coder c828 (SgCS.ext W825.ox) NgCS rfl rfl (by decide) (by decide) ok829.1 rfl (by decide) (by decide)) (by rw [hml]; rfl) (lenOf pd0 rfl) (S := [(.ref b825)]) rfl (by exact Nat.le_of_eq rfl) (pc' := 122) (hb hy at_119) rfl (cells' := 8) (slots' := 22) rfl rfl (by decide) (by decide) (wy := [b825]) (fun _ _ _ q => ⟨q.2.1, q.2.2.1⟩) (allS ⟨gz825, (Or.inr gb825)⟩ all0) (fun _ _ => trivial) ?_
    intro v830 T830 h830 lo830 W830 K830 q830
    obtain ⟨rfl, -, -, X830, Fc830, t830, kb830, gz830, ge830, -, Fv830, A830⟩ := q830
    have B830 : Arv Z h830 t830 kb830 .byte (2 : Int32) [(.int (StrChars.lo8 (p0 &&& (255 : Int32)))), (.int (StrChars.lo8 (((p0.toUInt32 >>> ((8 : Int32) &&& 31).toUInt32).toInt32) &&& (255 : Int32))))] (.int 0) := A830
    show Gl _ _ _ _ _ _ _ _ [(.ref b825)]
    refine o_astore W830 (L' := #[.val (.int p0), .val (.int p1), .val (.int p2), .val (.int 1), .val (.ref b809), .val (.ref b812), .val (.ref b817), .val (.ref b821), .val (.ref b825), .unset, .unset, .unset, .unset]) (pc' := 124) (hb hy at_122) rfl rfl rfl ?_
    refine o_new W830 (w1 hw) (w2 hw) (w3 hw) (fun _ _ => trivial) (pc' := 127) (hb hy at_124) rfl (cells' := 9) (slots' := 26) rfl rfl (by decide) (by decide) ?_
    intro b831 T831 h831 W831 E831 ge831 gz831 gb831 A831 D831
    have Fb831_coder : Fld Z h831 b831 "java/lang/String" "coder" "B" (.int 0) := D831 (Or.inr (w27 hw)) (ty := .byte) (by decide)
    have Fb831_value : Fld Z h831 b831 "java/lang/String" "value" "[B" .null := D831 (Or.inr (w29 hw)) (ty := (.array .byte)) (by decide)
    refine o_dup W831 (pc' := 128) (hb hy at_127) rfl rfl ?_
    refine o_aload W831 (pc' := 130) (hb hy at_128) rfl rfl rfl ?_
    have c832 := ((V816.ext E817).keep K820 (ninS (own_ne V816.lt ge817) nin0))
    have c833 := (c822.keep K824 (ninS (own_ne c832.lt ge821) nin0))
    have c834 := ((((c822.keep K824 (ninS (own_ne c832.lt ge821) nin0)).ext E825).keep K830 (ninS (own_ne c833.lt ge825) nin0)).ext E831)
    have ok835 : own_ok [(p0 &&& (255 : Int32)), (((p0.toUInt32 >>> ((8 : Int32) &&& 31).toUInt32).toInt32) &&& (255 : Int32))] := ok829
    refine o_special W831 (y := (⟨"java/lang/String", "<init>", "([C)V"⟩ : MethodName)) rfl (w4 hw) (w5 hw) (w6 hw) (by decide) (a := b831) (argsL := [(.ref b812)]) (StrChars.Road.backV (W := 1) W831.2.2.2.1 (own_hV hw) (kI := 4) (w2 hw) (cs := [(p0 &&& (255 : Int32)), (((p0.toUInt32 >>> ((8 : Int32) &&& 31).toUInt32).toInt32) &&& (255 : Int32))]) (bs := [((p0 &&& (255 : Int32))).toInt8.toInt32, ((((p0.toUInt32 >>> ((8 : Int32) &&& 31).toUInt32).toInt32) &&& (255 : Int32))).toInt8.toInt32]) (n := 2) (n0 := Z.heap.size) gz831 W831.zs A831 Fb831_value Fb831_coder c834 (SgCS.ext W831.ox) NgCS rfl rfl (by decide) (by decide) ok835.1 rfl (by decide) (by decide)) (by rw [hml]; rfl) (lenOf pd0 rfl) (S := [(.ref b831)]) rfl (by exact Nat.le_of_eq rfl) (pc' := 133) (hb hy at_130) rfl (cells' := 10) (slots' := 28) rfl rfl (by decide) (by decide) (wy := [b831]) (fun _ _ _ q => ⟨q.2.1, q.2.2.1⟩) (allS ⟨gz831, (Or.inr gb831)⟩ all0) (fun _ _ => trivial) ?_
    intro v836 T836 h836 lo836 W836 K836 q836
    obtain ⟨rfl, -, -, X836, Fc836, t836, kb836, gz836, ge836, -, Fv836, A836⟩ := q836
    have B836 : Arv Z h836 t836 kb836 .byte (2 : Int32) [(.int (StrChars.lo8 (p0 &&& (255 : Int32)))), (.int (StrChars.lo8 (((p0.toUInt32 >>> ((8 : Int32) &&& 31).toUInt32).toInt32) &&& (255 : Int32))))] (.int 0) := A836
    show Gl _ _ _ _ _ _ _ _ [(.ref b831)]
    refine o_astore W836 (L' := #[.val (.int p0), .val (.int p1), .val (.int p2), .val (.int 1), .val (.ref b809), .val (.ref b812), .val (.ref b817), .val (.ref b821), .val (.ref b825), .val (.ref b831), .unset, .unset, .unset]) (pc' := 135) (hb hy at_133) rfl rfl rfl ?_
    refine o_new W836 (w30 hw) (w31 hw) (w32 hw) (fun _ _ => trivial) (pc' := 138) (hb hy at_135) rfl (cells' := 11) (slots' := 31) rfl rfl (by decide) (by decide) ?_
    intro b837 T837 h837 W837 E837 ge837 gz837 gb837 A837 D837
    have Fb837_kind : Fld Z h837 b837 "com/example/plebiscite/plebiscite/core/Constraint" "kind" "Lcom/example/plebiscite/plebiscite/core/Constraint$Kind;" .null := D837 (Or.inr (w80 hw)) (ty := (.object "com/example/plebiscite/plebiscite/core/Constraint$Kind")) (by decide)
    have Fb837_first : Fld Z h837 b837 "com/example/plebiscite/plebiscite/core/Constraint" "first" "Ljava/lang/String;" .null := D837 (Or.inr (w82 hw)) (ty := (.object "java/lang/String")) (by decide)
    have Fb837_second : Fld Z h837 b837 "com/example/plebiscite/plebiscite/core/Constraint" "second" "Ljava/lang/String;" .null := D837 (Or.inr (w84 hw)) (ty := (.object "java/lang/String")) (by decide)
    refine o_dup W837 (pc' := 139) (hb hy at_138) rfl rfl ?_
    refine o_iloadN W837 (pc' := 140) (hb hy at_139) rfl rfl ?_
    rcases (Classical.em (((p2 &&& (2147483647 : Int32)) % (3 : Int32)) = (0 : Int32))).symm with hq838 | hq838
    · rcases (Classical.em (((p2 &&& (2147483647 : Int32)) % (3 : Int32)) = (1 : Int32))).symm with hq839 | hq839
      · refine o_static W837 (y := (⟨"com/example/plebiscite/plebiscite/core/ConstraintOtherPinLaw", "kindOf", "(I)Lcom/example/plebiscite/plebiscite/core/Constraint$Kind;"⟩ : MethodName)) (w33 hw) (w34 hw) (w35 hw) (w36 hw) (by decide) (argsL := [(.int p2)]) (CtrN.back (Wd := 2) W837 (rm1 l Z a0 hw gN p2 h837 W837.old hq838 hq839 SgN_NON_COMMUTING) (w36 hw) (w35 hw) (by decide) (by decide)) (by rw [hml]; rfl) (lenOf pd1 rfl) (S := [(.ref b837), (.ref b837)]) rfl (by exact Nat.le_of_eq rfl) (pc' := 143) (hb hy at_140) rfl (cells' := 11) (slots' := 31) rfl rfl (by decide) (by decide) (wy := []) (fun _ _ _ q => ⟨q.1, q.2.1⟩) all0 (fun _ _ => trivial) ?_
        intro v840 T840 h840 lo840 W840 K840 q840
        obtain rfl := q840.2.2
        show Gl _ _ _ _ _ _ _ _ [(.ref gN), (.ref b837), (.ref b837)]
        refine o_aload W840 (pc' := 145) (hb hy at_143) rfl rfl rfl ?_
        refine o_aload W840 (pc' := 147) (hb hy at_145) rfl rfl rfl ?_
        have c841 := ((X820.ext E821).keep K824)
        have c842 := ((c841.ext E825).keep K830)
        have c843 := ((((((((Fv820.ext E821).keep K824 (ninS (own_ne X820.lt ge821) nin0)).ext E825).keep K830 (ninS (own_ne c841.lt ge825) nin0)).ext E831).keep K836 (ninS (own_ne c842.lt ge831) nin0)).ext E837).keep K840 nin0)
        have c844 := ((X824.ext E825).keep K830)
        have c845 := ((((((Fv824.ext E825).keep K830 (ninS (own_ne X824.lt ge825) nin0)).ext E831).keep K836 (ninS (own_ne c844.lt ge831) nin0)).ext E837).keep K840 nin0)
        have c846 := ((((((((Fc820.ext E821).keep K824 (ninS (own_ne X820.lt ge821) nin0)).ext E825).keep K830 (ninS (own_ne c841.lt ge825) nin0)).ext E831).keep K836 (ninS (own_ne c842.lt ge831) nin0)).ext E837).keep K840 nin0)
        have c847 := ((((((Fc824.ext E825).keep K830 (ninS (own_ne X824.lt ge825) nin0)).ext E831).keep K836 (ninS (own_ne c844.lt ge831) nin0)).ext E837).keep K840 nin0)
        have c848 := ((B820.ext E821).keep K824 (ninS (own_ne B820.lt ge821) nin0))
        have c849 := ((c848.ext E825).keep K830 (ninS (own_ne c848.lt ge825) nin0))
        have c850 := ((((((((B820.ext E821).keep K824 (ninS (own_ne B820.lt ge821) nin0)).ext E825).keep K830 (ninS (own_ne c848.lt ge825) nin0)).ext E831).keep K836 (ninS (own_ne c849.lt ge831) nin0)).ext E837).keep K840 nin0)
        have c851 := ((B824.ext E825).keep K830 (ninS (own_ne B824.lt ge825) nin0))
        have c852 := ((((((B824.ext E825).keep K830 (ninS (own_ne B824.lt ge825) nin0)).ext E831).keep K836 (ninS (own_ne c851.lt ge831) nin0)).ext E837).keep K840 nin0)
        have c853 := (Fb837_kind.keep K840 nin0)
        have c854 := (Fb837_first.keep K840 nin0)
        have c855 := (Fb837_second.keep K840 nin0)
        have c856 := ((((c842.ext E831).keep K836).ext E837).keep K840)
        have c857 := ((((c844.ext E831).keep K836).ext E837).keep K840)
        have c858 := (A837.keep K840)
        refine o_special W840 (y := (⟨"com/example/plebiscite/plebiscite/core/Constraint", "<init>", "(Lcom/example/plebiscite/plebiscite/core/Constraint$Kind;Ljava/lang/String;Ljava/lang/String;)V"⟩ : MethodName)) rfl (w41 hw) (w42 hw) (w43 hw) (by decide) (a := b837) (argsL := [(.ref gN), (.ref b817), (.ref b821)]) (CtrN.back (Wd := 1) W840 (rm35 l Z a0 hw gCS gN b837 b817 b821 t820 t824 kb820 (p0 &&& (255 : Int32)) (((p0.toUInt32 >>> ((8 : Int32) &&& 31).toUInt32).toInt32) &&& (255 : Int32)) kb824 h840 W840.old SgN_NON_COMMUTING c856 c843 c845 SgCS NgCS c846 c857 c847 c850 c852 c858 c853 gz837 c854 c855) (w43 hw) (w32 hw) (by decide) (by decide)) (by rw [hml]; rfl) (lenOf pd9 rfl) (S := [(.ref b837)]) rfl (by exact Nat.le_of_eq rfl) (pc' := 150) (hb hy at_147) rfl (cells' := 11) (slots' := 31) rfl rfl (by decide) (by decide) (wy := [b837]) (fun _ _ _ q => ⟨q.1, q.2.1⟩) (allS ⟨gz837, (Or.inr gb837)⟩ all0) (fun _ _ => trivial) ?_
        intro v859 T859 h859 lo859 W859 K859 q859
        obtain ⟨P859_0, P859_1, P859_2, rfl⟩ := q859.2.2
        show Gl _ _ _ _ _ _ _ _ [(.ref b837)]
        refine o_astore W859 (L' := #[.val (.int p0), .val (.int p1), .val (.int p2), .val (.int 1), .val (.ref b809), .val (.ref b812), .val (.ref b817), .val (.ref b821), .val (.ref b825), .val (.ref b831), .val (.ref b837), .unset, .unset]) (pc' := 152) (hb hy at_150) rfl rfl rfl ?_
        refine o_aload W859 (pc' := 154) (hb hy at_152) rfl rfl rfl ?_
        refine o_aload W859 (pc' := 156) (hb hy at_154) rfl rfl rfl ?_
        have c860 := ((c842.ext E831).keep K836)
        have c861 := (c843.keep K859 (ninS (own_ne c860.lt ge837) nin0))
        have c862 := (c846.keep K859 (ninS (own_ne c860.lt ge837) nin0))
        have c863 := ((c849.ext E831).keep K836 (ninS (own_ne c849.lt ge831) nin0))
        have c864 := (c850.keep K859 (ninS (own_ne c863.lt ge837) nin0))
        have c865 := ((X830.ext E831).keep K836)
        have c866 := (((((Fv830.ext E831).keep K836 (ninS (own_ne X830.lt ge831) nin0)).ext E837).keep K840 nin0).keep K859 (ninS (own_ne c865.lt ge837) nin0))
        have c867 := (((((Fc830.ext E831).keep K836 (ninS (own_ne X830.lt ge831) nin0)).ext E837).keep K840 nin0).keep K859 (ninS (own_ne c865.lt ge837) nin0))
        have c868 := ((B830.ext E831).keep K836 (ninS (own_ne B830.lt ge831) nin0))
        have c869 := (((((B830.ext E831).keep K836 (ninS (own_ne B830.lt ge831) nin0)).ext E837).keep K840 nin0).keep K859 (ninS (own_ne c868.lt ge837) nin0))
        have c870 := (c856.keep K859)
        have c871 := (((c865.ext E837).keep K840).keep K859)
        have c872 := (c858.keep K859)
        refine o_virtual W859 (y := (⟨"com/example/plebiscite/plebiscite/core/Constraint", "other", "(Ljava/lang/String;)Ljava/lang/String;"⟩ : MethodName)) (z := (⟨"com/example/plebiscite/plebiscite/core/Constraint", "other", "(Ljava/lang/String;)Ljava/lang/String;"⟩ : MethodName)) (w85 hw) (w86 hw) (o_nf W859 rfl (w88 hw)) (w88 hw) (w87 hw) (by decide) c872 (argsL := [(.ref b825)]) (CtrN.back (Wd := 0) W859 (rm10 l Z a0 hw gCS b837 b825 b817 t820 kb820 (p0 &&& (255 : Int32)) (((p0.toUInt32 >>> ((8 : Int32) &&& 31).toUInt32).toInt32) &&& (255 : Int32)) t830 kb830 b821 h859 W859.old P859_1 c870 SgCS NgCS c861 c862 c864 (own_b255 _) (own_b255 _) c871 c866 c867 c869 P859_2) (w89 hw) (w32 hw) (by decide) (by decide)) (by rw [hml]; rfl) (lenOf pd11 rfl) (S := []) rfl (by exact Nat.le_of_eq rfl) (pc' := 159) (hb hy at_156) rfl (cells' := 11) (slots' := 31) rfl rfl (by decide) (by decide) (wy := []) (fun _ _ _ q => ⟨q.1, q.2.1⟩) all0 (fun _ _ => trivial) ?_
        intro v873 T873 h873 lo873 W873 K873 q873
        obtain rfl := q873.2.2
        show Gl _ _ _ _ _ _ _ _ [(.ref b821)]
        refine o_astore W873 (L' := #[.val (.int p0), .val (.int p1), .val (.int p2), .val (.int 1), .val (.ref b809), .val (.ref b812), .val (.ref b817), .val (.ref b821), .val (.ref b825), .val (.ref b831), .val (.ref b837), .val (.ref b821), .unset]) (pc' := 161) (hb hy at_159) rfl rfl rfl ?_
        refine o_aload W873 (pc' := 163) (hb hy at_161) rfl rfl rfl ?_
        refine o_aload W873 (pc' := 165) (hb hy at_163) rfl rfl rfl ?_
        have c874 := (P859_1.keep K873 nin0)
        have c875 := (c861.keep K873 nin0)
        have c876 := (c862.keep K873 nin0)
        have c877 := (c864.keep K873 nin0)
        have c878 := ((((Fv836.ext E837).keep K840 nin0).keep K859 (ninS (own_ne X836.lt ge837) nin0)).keep K873 nin0)
        have c879 := ((((Fc836.ext E837).keep K840 nin0).keep K859 (ninS (own_ne X836.lt ge837) nin0)).keep K873 nin0)
        have c880 := ((((B836.ext E837).keep K840 nin0).keep K859 (ninS (own_ne B836.lt ge837) nin0)).keep K873 nin0)
        have c881 := (P859_2.keep K873 nin0)
        have c882 := (c870.keep K873)
        have c883 := ((((X836.ext E837).keep K840).keep K859).keep K873)
        have c884 := (c872.keep K873)
        refine o_virtual W873 (y := (⟨"com/example/plebiscite/plebiscite/core/Constraint", "other", "(Ljava/lang/String;)Ljava/lang/String;"⟩ : MethodName)) (z := (⟨"com/example/plebiscite/plebiscite/core/Constraint", "other", "(Ljava/lang/String;)Ljava/lang/String;"⟩ : MethodName)) (w85 hw) (w86 hw) (o_nf W873 rfl (w88 hw)) (w88 hw) (w87 hw) (by decide) c884 (argsL := [(.ref b831)]) (CtrN.back (Wd := 0) W873 (rm10 l Z a0 hw gCS b837 b831 b817 t820 kb820 (p0 &&& (255 : Int32)) (((p0.toUInt32 >>> ((8 : Int32) &&& 31).toUInt32).toInt32) &&& (255 : Int32)) t836 kb836 b821 h873 W873.old c874 c882 SgCS NgCS c875 c876 c877 (own_b255 _) (own_b255 _) c883 c878 c879 c880 c881) (w89 hw) (w32 hw) (by decide) (by decide)) (by rw [hml]; rfl) (lenOf pd11 rfl) (S := []) rfl (by exact Nat.le_of_eq rfl) (pc' := 168) (hb hy at_165) rfl (cells' := 11) (slots' := 31) rfl rfl (by decide) (by decide) (wy := []) (fun _ _ _ q => ⟨q.1, q.2.1⟩) all0 (fun _ _ => trivial) ?_
        intro v885 T885 h885 lo885 W885 K885 q885
        obtain rfl := q885.2.2
        show Gl _ _ _ _ _ _ _ _ [(.ref b821)]
        refine o_astore W885 (L' := #[.val (.int p0), .val (.int p1), .val (.int p2), .val (.int 1), .val (.ref b809), .val (.ref b812), .val (.ref b817), .val (.ref b821), .val (.ref b825), .val (.ref b831), .val (.ref b837), .val (.ref b821), .val (.ref b821)]) (pc' := 170) (hb hy at_168) rfl rfl rfl ?_
        refine o_aload W885 (pc' := 172) (hb hy at_170) rfl rfl rfl ?_
        refine o_aload W885 (pc' := 174) (hb hy at_172) rfl rfl rfl ?_
        have c886 := (((c857.keep K859).keep K873).keep K885)
        have c887 := ((c844.ext E831).keep K836)
        have c888 := (((c845.keep K859 (ninS (own_ne c887.lt ge837) nin0)).keep K873 nin0).keep K885 nin0)
        have c889 := (((c847.keep K859 (ninS (own_ne c887.lt ge837) nin0)).keep K873 nin0).keep K885 nin0)
        have c890 := ((c851.ext E831).keep K836 (ninS (own_ne c851.lt ge831) nin0))
        have c891 := (((c852.keep K859 (ninS (own_ne c890.lt ge837) nin0)).keep K873 nin0).keep K885 nin0)
        have ok892 : own_ok [(p0 &&& (255 : Int32)), (((p0.toUInt32 >>> ((8 : Int32) &&& 31).toUInt32).toInt32) &&& (255 : Int32))] := ok835
        have ok893 : own_ok [(p0 &&& (255 : Int32)), (((p0.toUInt32 >>> ((8 : Int32) &&& 31).toUInt32).toInt32) &&& (255 : Int32))] := ok835
        refine o_virtual W885 (y := (⟨"java/lang/String", "equals", "(Ljava/lang/Object;)Z"⟩ : MethodName)) (z := (⟨"java/lang/String", "equals", "(Ljava/lang/Object;)Z"⟩ : MethodName)) (kc := 0) (ks := 0) (Q := fun v hh L => ((v = some (.int 1) ∧ [(p0 &&& (255 : Int32)), (((p0.toUInt32 >>> ((8 : Int32) &&& 31).toUInt32).toInt32) &&& (255 : Int32))] = [(p0 &&& (255 : Int32)), (((p0.toUInt32 >>> ((8 : Int32) &&& 31).toUInt32).toInt32) &&& (255 : Int32))]) ∨ (v = some (.int 0) ∧ ¬ [(p0 &&& (255 : Int32)), (((p0.toUInt32 >>> ((8 : Int32) &&& 31).toUInt32).toInt32) &&& (255 : Int32))] = [(p0 &&& (255 : Int32)), (((p0.toUInt32 >>> ((8 : Int32) &&& 31).toUInt32).toInt32) &&& (255 : Int32))])) ∧ L = [] ∧ hh = h885) (w99 hw) (w91 hw) (o_nf W885 rfl (w93 hw)) (w93 hw) (w92 hw) (by decide) c886 (argsL := [(.ref b821)]) (StrChars.Road.eqW (W := 0) W885.2.2.2.1 (own_hE hw) (kI := 4) (w2 hw) c886 c888 c889 c891 (own_cod ok892) (own_up ok892) ok892.2 c886 c888 c889 c891 (own_cod ok893) (own_up ok893) ok893.2 (SgCS.ext W885.ox) NgCS (by decide) (by decide)) (by rw [hml]; rfl) (lenOf pd10 rfl) (S := []) rfl (by exact Nat.le_of_eq rfl) (pc' := 177) (hb hy at_174) rfl (cells' := 11) (slots' := 31) rfl rfl (by decide) (by decide) (wy := []) (fun _ _ _ q => own_same q.2) all0 (fun _ _ => trivial) ?_
        intro v894 T894 h894 lo894 W894 K894 q894
        obtain rfl := own_eqv q894.1
        show Gl _ _ _ _ _ _ _ _ [(.int (own_eq [(p0 &&& (255 : Int32)), (((p0.toUInt32 >>> ((8 : Int32) &&& 31).toUInt32).toInt32) &&& (255 : Int32))] [(p0 &&& (255 : Int32)), (((p0.toUInt32 >>> ((8 : Int32) &&& 31).toUInt32).toInt32) &&& (255 : Int32))]))]
        refine o_ifN W894 (pc' := 180) (hb hy at_177) (XT.i0_eq_f (own_eqne _)) rfl ?_
        refine o_aload W894 (pc' := 182) (hb hy at_180) rfl rfl rfl ?_
        refine o_aload W894 (pc' := 184) (hb hy at_182) rfl rfl rfl ?_
        have c895 := (c886.keep K894)
        have c896 := (c888.keep K894 nin0)
        have c897 := (c889.keep K894 nin0)
        have c898 := (c891.keep K894 nin0)
        have c899 := ((c882.keep K885).keep K894)
        have c900 := ((c875.keep K885 nin0).keep K894 nin0)
        have c901 := ((c876.keep K885 nin0).keep K894 nin0)
        have c902 := ((c877.keep K885 nin0).keep K894 nin0)
        have ok903 : own_ok [(p0 &&& (255 : Int32)), (((p0.toUInt32 >>> ((8 : Int32) &&& 31).toUInt32).toInt32) &&& (255 : Int32))] := ok835
        have ok904 : own_ok [(p0 &&& (255 : Int32)), (((p0.toUInt32 >>> ((8 : Int32) &&& 31).toUInt32).toInt32) &&& (255 : Int32))] := ok835
        refine o_virtual W894 (y := (⟨"java/lang/String", "equals", "(Ljava/lang/Object;)Z"⟩ : MethodName)) (z := (⟨"java/lang/String", "equals", "(Ljava/lang/Object;)Z"⟩ : MethodName)) (kc := 0) (ks := 0) (Q := fun v hh L => ((v = some (.int 1) ∧ [(p0 &&& (255 : Int32)), (((p0.toUInt32 >>> ((8 : Int32) &&& 31).toUInt32).toInt32) &&& (255 : Int32))] = [(p0 &&& (255 : Int32)), (((p0.toUInt32 >>> ((8 : Int32) &&& 31).toUInt32).toInt32) &&& (255 : Int32))]) ∨ (v = some (.int 0) ∧ ¬ [(p0 &&& (255 : Int32)), (((p0.toUInt32 >>> ((8 : Int32) &&& 31).toUInt32).toInt32) &&& (255 : Int32))] = [(p0 &&& (255 : Int32)), (((p0.toUInt32 >>> ((8 : Int32) &&& 31).toUInt32).toInt32) &&& (255 : Int32))])) ∧ L = [] ∧ hh = h894) (w99 hw) (w91 hw) (o_nf W894 rfl (w93 hw)) (w93 hw) (w92 hw) (by decide) c895 (argsL := [(.ref b817)]) (StrChars.Road.eqW (W := 0) W894.2.2.2.1 (own_hE hw) (kI := 4) (w2 hw) c895 c896 c897 c898 (own_cod ok903) (own_up ok903) ok903.2 c899 c900 c901 c902 (own_cod ok904) (own_up ok904) ok904.2 (SgCS.ext W894.ox) NgCS (by decide) (by decide)) (by rw [hml]; rfl) (lenOf pd10 rfl) (S := []) rfl (by exact Nat.le_of_eq rfl) (pc' := 187) (hb hy at_184) rfl (cells' := 11) (slots' := 31) rfl rfl (by decide) (by decide) (wy := []) (fun _ _ _ q => own_same q.2) all0 (fun _ _ => trivial) ?_
        intro v905 T905 h905 lo905 W905 K905 q905
        obtain rfl := own_eqv q905.1
        show Gl _ _ _ _ _ _ _ _ [(.int (own_eq [(p0 &&& (255 : Int32)), (((p0.toUInt32 >>> ((8 : Int32) &&& 31).toUInt32).toInt32) &&& (255 : Int32))] [(p0 &&& (255 : Int32)), (((p0.toUInt32 >>> ((8 : Int32) &&& 31).toUInt32).toInt32) &&& (255 : Int32))]))]
        refine o_ifN W905 (pc' := 190) (hb hy at_187) (XT.i0_eq_f (own_eqne _)) rfl ?_
        refine o_iconst W905 (v := 1) (pc' := 191) (hb hy at_190) rfl rfl ?_
        refine o_goto W905 (pc' := 195) (hb hy at_191) (by decide) rfl ?_
        exact o_retN W905 hlk (t := .boolean) hret (by simp) (z' := (1 : Int32)) (by decide) (hb hy at_195) (by decide) (by decide) rfl
      · refine o_static W837 (y := (⟨"com/example/plebiscite/plebiscite/core/ConstraintOtherPinLaw", "kindOf", "(I)Lcom/example/plebiscite/plebiscite/core/Constraint$Kind;"⟩ : MethodName)) (w33 hw) (w34 hw) (w35 hw) (w36 hw) (by decide) (argsL := [(.int p2)]) (CtrN.back (Wd := 2) W837 (rm27 l Z a0 hw gE p2 h837 W837.old hq838 hq839 SgE_ENABLES) (w36 hw) (w35 hw) (by decide) (by decide)) (by rw [hml]; rfl) (lenOf pd1 rfl) (S := [(.ref b837), (.ref b837)]) rfl (by exact Nat.le_of_eq rfl) (pc' := 143) (hb hy at_140) rfl (cells' := 11) (slots' := 31) rfl rfl (by decide) (by decide) (wy := []) (fun _ _ _ q => ⟨q.1, q.2.1⟩) all0 (fun _ _ => trivial) ?_
        intro v906 T906 h906 lo906 W906 K906 q906
        obtain rfl := q906.2.2
        show Gl _ _ _ _ _ _ _ _ [(.ref gE), (.ref b837), (.ref b837)]
        refine o_aload W906 (pc' := 145) (hb hy at_143) rfl rfl rfl ?_
        refine o_aload W906 (pc' := 147) (hb hy at_145) rfl rfl rfl ?_
        have c907 := (Fb837_kind.keep K906 nin0)
        have c908 := (Fb837_first.keep K906 nin0)
        have c909 := (Fb837_second.keep K906 nin0)
        have c910 := (A837.keep K906)
        refine o_special W906 (y := (⟨"com/example/plebiscite/plebiscite/core/Constraint", "<init>", "(Lcom/example/plebiscite/plebiscite/core/Constraint$Kind;Ljava/lang/String;Ljava/lang/String;)V"⟩ : MethodName)) rfl (w41 hw) (w42 hw) (w43 hw) (by decide) (a := b837) (argsL := [(.ref gE), (.ref b817), (.ref b821)]) (CtrN.back (Wd := 1) W906 (rm28 l Z a0 hw gN gE b837 b817 b821 h906 W906.old SgN_NON_COMMUTING negEgN c910 c907 gz837 c908 c909) (w43 hw) (w32 hw) (by decide) (by decide)) (by rw [hml]; rfl) (lenOf pd9 rfl) (S := [(.ref b837)]) rfl (by exact Nat.le_of_eq rfl) (pc' := 150) (hb hy at_147) rfl (cells' := 11) (slots' := 31) rfl rfl (by decide) (by decide) (wy := [b837]) (fun _ _ _ q => ⟨q.1, q.2.1⟩) (allS ⟨gz837, (Or.inr gb837)⟩ all0) (fun _ _ => trivial) ?_
        intro v911 T911 h911 lo911 W911 K911 q911
        obtain ⟨P911_0, P911_1, P911_2, rfl⟩ := q911.2.2
        show Gl _ _ _ _ _ _ _ _ [(.ref b837)]
        refine o_astore W911 (L' := #[.val (.int p0), .val (.int p1), .val (.int p2), .val (.int 1), .val (.ref b809), .val (.ref b812), .val (.ref b817), .val (.ref b821), .val (.ref b825), .val (.ref b831), .val (.ref b837), .unset, .unset]) (pc' := 152) (hb hy at_150) rfl rfl rfl ?_
        refine o_aload W911 (pc' := 154) (hb hy at_152) rfl rfl rfl ?_
        refine o_aload W911 (pc' := 156) (hb hy at_154) rfl rfl rfl ?_
        have c912 := ((X820.ext E821).keep K824)
        have c913 := ((c912.ext E825).keep K830)
        have c914 := ((c913.ext E831).keep K836)
        have c915 := (((((((((Fv820.ext E821).keep K824 (ninS (own_ne X820.lt ge821) nin0)).ext E825).keep K830 (ninS (own_ne c912.lt ge825) nin0)).ext E831).keep K836 (ninS (own_ne c913.lt ge831) nin0)).ext E837).keep K906 nin0).keep K911 (ninS (own_ne c914.lt ge837) nin0))
        have c916 := (((((((((Fc820.ext E821).keep K824 (ninS (own_ne X820.lt ge821) nin0)).ext E825).keep K830 (ninS (own_ne c912.lt ge825) nin0)).ext E831).keep K836 (ninS (own_ne c913.lt ge831) nin0)).ext E837).keep K906 nin0).keep K911 (ninS (own_ne c914.lt ge837) nin0))
        have c917 := ((B820.ext E821).keep K824 (ninS (own_ne B820.lt ge821) nin0))
        have c918 := ((c917.ext E825).keep K830 (ninS (own_ne c917.lt ge825) nin0))
        have c919 := ((c918.ext E831).keep K836 (ninS (own_ne c918.lt ge831) nin0))
        have c920 := (((((((((B820.ext E821).keep K824 (ninS (own_ne B820.lt ge821) nin0)).ext E825).keep K830 (ninS (own_ne c917.lt ge825) nin0)).ext E831).keep K836 (ninS (own_ne c918.lt ge831) nin0)).ext E837).keep K906 nin0).keep K911 (ninS (own_ne c919.lt ge837) nin0))
        have c921 := ((X830.ext E831).keep K836)
        have c922 := (((((Fv830.ext E831).keep K836 (ninS (own_ne X830.lt ge831) nin0)).ext E837).keep K906 nin0).keep K911 (ninS (own_ne c921.lt ge837) nin0))
        have c923 := (((((Fc830.ext E831).keep K836 (ninS (own_ne X830.lt ge831) nin0)).ext E837).keep K906 nin0).keep K911 (ninS (own_ne c921.lt ge837) nin0))
        have c924 := ((B830.ext E831).keep K836 (ninS (own_ne B830.lt ge831) nin0))
        have c925 := (((((B830.ext E831).keep K836 (ninS (own_ne B830.lt ge831) nin0)).ext E837).keep K906 nin0).keep K911 (ninS (own_ne c924.lt ge837) nin0))
        have c926 := (((c914.ext E837).keep K906).keep K911)
        have c927 := (((c921.ext E837).keep K906).keep K911)
        have c928 := (c910.keep K911)
        refine o_virtual W911 (y := (⟨"com/example/plebiscite/plebiscite/core/Constraint", "other", "(Ljava/lang/String;)Ljava/lang/String;"⟩ : MethodName)) (z := (⟨"com/example/plebiscite/plebiscite/core/Constraint", "other", "(Ljava/lang/String;)Ljava/lang/String;"⟩ : MethodName)) (w85 hw) (w86 hw) (o_nf W911 rfl (w88 hw)) (w88 hw) (w87 hw) (by decide) c928 (argsL := [(.ref b825)]) (CtrN.back (Wd := 0) W911 (rm10 l Z a0 hw gCS b837 b825 b817 t820 kb820 (p0 &&& (255 : Int32)) (((p0.toUInt32 >>> ((8 : Int32) &&& 31).toUInt32).toInt32) &&& (255 : Int32)) t830 kb830 b821 h911 W911.old P911_1 c926 SgCS NgCS c915 c916 c920 (own_b255 _) (own_b255 _) c927 c922 c923 c925 P911_2) (w89 hw) (w32 hw) (by decide) (by decide)) (by rw [hml]; rfl) (lenOf pd11 rfl) (S := []) rfl (by exact Nat.le_of_eq rfl) (pc' := 159) (hb hy at_156) rfl (cells' := 11) (slots' := 31) rfl rfl (by decide) (by decide) (wy := []) (fun _ _ _ q => ⟨q.1, q.2.1⟩) all0 (fun _ _ => trivial) ?_
        intro v929 T929 h929 lo929 W929 K929 q929
        obtain rfl := q929.2.2
        show Gl _ _ _ _ _ _ _ _ [(.ref b821)]
        refine o_astore W929 (L' := #[.val (.int p0), .val (.int p1), .val (.int p2), .val (.int 1), .val (.ref b809), .val (.ref b812), .val (.ref b817), .val (.ref b821), .val (.ref b825), .val (.ref b831), .val (.ref b837), .val (.ref b821), .unset]) (pc' := 161) (hb hy at_159) rfl rfl rfl ?_
        refine o_aload W929 (pc' := 163) (hb hy at_161) rfl rfl rfl ?_
        refine o_aload W929 (pc' := 165) (hb hy at_163) rfl rfl rfl ?_
        have c930 := (P911_1.keep K929 nin0)
        have c931 := (c915.keep K929 nin0)
        have c932 := (c916.keep K929 nin0)
        have c933 := (c920.keep K929 nin0)
        have c934 := ((((Fv836.ext E837).keep K906 nin0).keep K911 (ninS (own_ne X836.lt ge837) nin0)).keep K929 nin0)
        have c935 := ((((Fc836.ext E837).keep K906 nin0).keep K911 (ninS (own_ne X836.lt ge837) nin0)).keep K929 nin0)
        have c936 := ((((B836.ext E837).keep K906 nin0).keep K911 (ninS (own_ne B836.lt ge837) nin0)).keep K929 nin0)
        have c937 := (P911_2.keep K929 nin0)
        have c938 := (c926.keep K929)
        have c939 := ((((X836.ext E837).keep K906).keep K911).keep K929)
        have c940 := (c928.keep K929)
        refine o_virtual W929 (y := (⟨"com/example/plebiscite/plebiscite/core/Constraint", "other", "(Ljava/lang/String;)Ljava/lang/String;"⟩ : MethodName)) (z := (⟨"com/example/plebiscite/plebiscite/core/Constraint", "other", "(Ljava/lang/String;)Ljava/lang/String;"⟩ : MethodName)) (w85 hw) (w86 hw) (o_nf W929 rfl (w88 hw)) (w88 hw) (w87 hw) (by decide) c940 (argsL := [(.ref b831)]) (CtrN.back (Wd := 0) W929 (rm10 l Z a0 hw gCS b837 b831 b817 t820 kb820 (p0 &&& (255 : Int32)) (((p0.toUInt32 >>> ((8 : Int32) &&& 31).toUInt32).toInt32) &&& (255 : Int32)) t836 kb836 b821 h929 W929.old c930 c938 SgCS NgCS c931 c932 c933 (own_b255 _) (own_b255 _) c939 c934 c935 c936 c937) (w89 hw) (w32 hw) (by decide) (by decide)) (by rw [hml]; rfl) (lenOf pd11 rfl) (S := []) rfl (by exact Nat.le_of_eq rfl) (pc' := 168) (hb hy at_165) rfl (cells' := 11) (slots' := 31) rfl rfl (by decide) (by decide) (wy := []) (fun _ _ _ q => ⟨q.1, q.2.1⟩) all0 (fun _ _ => trivial) ?_
        intro v941 T941 h941 lo941 W941 K941 q941
        obtain rfl := q941.2.2
        show Gl _ _ _ _ _ _ _ _ [(.ref b821)]
        refine o_astore W941 (L' := #[.val (.int p0), .val (.int p1), .val (.int p2), .val (.int 1), .val (.ref b809), .val (.ref b812), .val (.ref b817), .val (.ref b821), .val (.ref b825), .val (.ref b831), .val (.ref b837), .val (.ref b821), .val (.ref b821)]) (pc' := 170) (hb hy at_168) rfl rfl rfl ?_
        refine o_aload W941 (pc' := 172) (hb hy at_170) rfl rfl rfl ?_
        refine o_aload W941 (pc' := 174) (hb hy at_172) rfl rfl rfl ?_
        have c942 := (((((((((X824.ext E825).keep K830).ext E831).keep K836).ext E837).keep K906).keep K911).keep K929).keep K941)
        have c943 := ((X824.ext E825).keep K830)
        have c944 := ((c943.ext E831).keep K836)
        have c945 := (((((((((Fv824.ext E825).keep K830 (ninS (own_ne X824.lt ge825) nin0)).ext E831).keep K836 (ninS (own_ne c943.lt ge831) nin0)).ext E837).keep K906 nin0).keep K911 (ninS (own_ne c944.lt ge837) nin0)).keep K929 nin0).keep K941 nin0)
        have c946 := (((((((((Fc824.ext E825).keep K830 (ninS (own_ne X824.lt ge825) nin0)).ext E831).keep K836 (ninS (own_ne c943.lt ge831) nin0)).ext E837).keep K906 nin0).keep K911 (ninS (own_ne c944.lt ge837) nin0)).keep K929 nin0).keep K941 nin0)
        have c947 := ((B824.ext E825).keep K830 (ninS (own_ne B824.lt ge825) nin0))
        have c948 := ((c947.ext E831).keep K836 (ninS (own_ne c947.lt ge831) nin0))
        have c949 := (((((((((B824.ext E825).keep K830 (ninS (own_ne B824.lt ge825) nin0)).ext E831).keep K836 (ninS (own_ne c947.lt ge831) nin0)).ext E837).keep K906 nin0).keep K911 (ninS (own_ne c948.lt ge837) nin0)).keep K929 nin0).keep K941 nin0)
        have ok950 : own_ok [(p0 &&& (255 : Int32)), (((p0.toUInt32 >>> ((8 : Int32) &&& 31).toUInt32).toInt32) &&& (255 : Int32))] := ok835
        have ok951 : own_ok [(p0 &&& (255 : Int32)), (((p0.toUInt32 >>> ((8 : Int32) &&& 31).toUInt32).toInt32) &&& (255 : Int32))] := ok835
        refine o_virtual W941 (y := (⟨"java/lang/String", "equals", "(Ljava/lang/Object;)Z"⟩ : MethodName)) (z := (⟨"java/lang/String", "equals", "(Ljava/lang/Object;)Z"⟩ : MethodName)) (kc := 0) (ks := 0) (Q := fun v hh L => ((v = some (.int 1) ∧ [(p0 &&& (255 : Int32)), (((p0.toUInt32 >>> ((8 : Int32) &&& 31).toUInt32).toInt32) &&& (255 : Int32))] = [(p0 &&& (255 : Int32)), (((p0.toUInt32 >>> ((8 : Int32) &&& 31).toUInt32).toInt32) &&& (255 : Int32))]) ∨ (v = some (.int 0) ∧ ¬ [(p0 &&& (255 : Int32)), (((p0.toUInt32 >>> ((8 : Int32) &&& 31).toUInt32).toInt32) &&& (255 : Int32))] = [(p0 &&& (255 : Int32)), (((p0.toUInt32 >>> ((8 : Int32) &&& 31).toUInt32).toInt32) &&& (255 : Int32))])) ∧ L = [] ∧ hh = h941) (w99 hw) (w91 hw) (o_nf W941 rfl (w93 hw)) (w93 hw) (w92 hw) (by decide) c942 (argsL := [(.ref b821)]) (StrChars.Road.eqW (W := 0) W941.2.2.2.1 (own_hE hw) (kI := 4) (w2 hw) c942 c945 c946 c949 (own_cod ok950) (own_up ok950) ok950.2 c942 c945 c946 c949 (own_cod ok951) (own_up ok951) ok951.2 (SgCS.ext W941.ox) NgCS (by decide) (by decide)) (by rw [hml]; rfl) (lenOf pd10 rfl) (S := []) rfl (by exact Nat.le_of_eq rfl) (pc' := 177) (hb hy at_174) rfl (cells' := 11) (slots' := 31) rfl rfl (by decide) (by decide) (wy := []) (fun _ _ _ q => own_same q.2) all0 (fun _ _ => trivial) ?_
        intro v952 T952 h952 lo952 W952 K952 q952
        obtain rfl := own_eqv q952.1
        show Gl _ _ _ _ _ _ _ _ [(.int (own_eq [(p0 &&& (255 : Int32)), (((p0.toUInt32 >>> ((8 : Int32) &&& 31).toUInt32).toInt32) &&& (255 : Int32))] [(p0 &&& (255 : Int32)), (((p0.toUInt32 >>> ((8 : Int32) &&& 31).toUInt32).toInt32) &&& (255 : Int32))]))]
        refine o_ifN W952 (pc' := 180) (hb hy at_177) (XT.i0_eq_f (own_eqne _)) rfl ?_
        refine o_aload W952 (pc' := 182) (hb hy at_180) rfl rfl rfl ?_
        refine o_aload W952 (pc' := 184) (hb hy at_182) rfl rfl rfl ?_
        have c953 := (c942.keep K952)
        have c954 := (c945.keep K952 nin0)
        have c955 := (c946.keep K952 nin0)
        have c956 := (c949.keep K952 nin0)
        have c957 := ((c938.keep K941).keep K952)
        have c958 := ((c931.keep K941 nin0).keep K952 nin0)
        have c959 := ((c932.keep K941 nin0).keep K952 nin0)
        have c960 := ((c933.keep K941 nin0).keep K952 nin0)
        have ok961 : own_ok [(p0 &&& (255 : Int32)), (((p0.toUInt32 >>> ((8 : Int32) &&& 31).toUInt32).toInt32) &&& (255 : Int32))] := ok835
        have ok962 : own_ok [(p0 &&& (255 : Int32)), (((p0.toUInt32 >>> ((8 : Int32) &&& 31).toUInt32).toInt32) &&& (255 : Int32))] := ok835
        refine o_virtual W952 (y := (⟨"java/lang/String", "equals", "(Ljava/lang/Object;)Z"⟩ : MethodName)) (z := (⟨"java/lang/String", "equals", "(Ljava/lang/Object;)Z"⟩ : MethodName)) (kc := 0) (ks := 0) (Q := fun v hh L => ((v = some (.int 1) ∧ [(p0 &&& (255 : Int32)), (((p0.toUInt32 >>> ((8 : Int32) &&& 31).toUInt32).toInt32) &&& (255 : Int32))] = [(p0 &&& (255 : Int32)), (((p0.toUInt32 >>> ((8 : Int32) &&& 31).toUInt32).toInt32) &&& (255 : Int32))]) ∨ (v = some (.int 0) ∧ ¬ [(p0 &&& (255 : Int32)), (((p0.toUInt32 >>> ((8 : Int32) &&& 31).toUInt32).toInt32) &&& (255 : Int32))] = [(p0 &&& (255 : Int32)), (((p0.toUInt32 >>> ((8 : Int32) &&& 31).toUInt32).toInt32) &&& (255 : Int32))])) ∧ L = [] ∧ hh = h952) (w99 hw) (w91 hw) (o_nf W952 rfl (w93 hw)) (w93 hw) (w92 hw) (by decide) c953 (argsL := [(.ref b817)]) (StrChars.Road.eqW (W := 0) W952.2.2.2.1 (own_hE hw) (kI := 4) (w2 hw) c953 c954 c955 c956 (own_cod ok961) (own_up ok961) ok961.2 c957 c958 c959 c960 (own_cod ok962) (own_up ok962) ok962.2 (SgCS.ext W952.ox) NgCS (by decide) (by decide)) (by rw [hml]; rfl) (lenOf pd10 rfl) (S := []) rfl (by exact Nat.le_of_eq rfl) (pc' := 187) (hb hy at_184) rfl (cells' := 11) (slots' := 31) rfl rfl (by decide) (by decide) (wy := []) (fun _ _ _ q => own_same q.2) all0 (fun _ _ => trivial) ?_
        intro v963 T963 h963 lo963 W963 K963 q963
        obtain rfl := own_eqv q963.1
        show Gl _ _ _ _ _ _ _ _ [(.int (own_eq [(p0 &&& (255 : Int32)), (((p0.toUInt32 >>> ((8 : Int32) &&& 31).toUInt32).toInt32) &&& (255 : Int32))] [(p0 &&& (255 : Int32)), (((p0.toUInt32 >>> ((8 : Int32) &&& 31).toUInt32).toInt32) &&& (255 : Int32))]))]
        refine o_ifN W963 (pc' := 190) (hb hy at_187) (XT.i0_eq_f (own_eqne _)) rfl ?_
        refine o_iconst W963 (v := 1) (pc' := 191) (hb hy at_190) rfl rfl ?_
        refine o_goto W963 (pc' := 195) (hb hy at_191) (by decide) rfl ?_
        exact o_retN W963 hlk (t := .boolean) hret (by simp) (z' := (1 : Int32)) (by decide) (hb hy at_195) (by decide) (by decide) rfl
    · refine o_static W837 (y := (⟨"com/example/plebiscite/plebiscite/core/ConstraintOtherPinLaw", "kindOf", "(I)Lcom/example/plebiscite/plebiscite/core/Constraint$Kind;"⟩ : MethodName)) (w33 hw) (w34 hw) (w35 hw) (w36 hw) (by decide) (argsL := [(.int p2)]) (CtrN.back (Wd := 2) W837 (rm29 l Z a0 hw gA p2 h837 W837.old hq838 SgA_NOT_AFTER) (w36 hw) (w35 hw) (by decide) (by decide)) (by rw [hml]; rfl) (lenOf pd1 rfl) (S := [(.ref b837), (.ref b837)]) rfl (by exact Nat.le_of_eq rfl) (pc' := 143) (hb hy at_140) rfl (cells' := 11) (slots' := 31) rfl rfl (by decide) (by decide) (wy := []) (fun _ _ _ q => ⟨q.1, q.2.1⟩) all0 (fun _ _ => trivial) ?_
      intro v964 T964 h964 lo964 W964 K964 q964
      obtain rfl := q964.2.2
      show Gl _ _ _ _ _ _ _ _ [(.ref gA), (.ref b837), (.ref b837)]
      refine o_aload W964 (pc' := 145) (hb hy at_143) rfl rfl rfl ?_
      refine o_aload W964 (pc' := 147) (hb hy at_145) rfl rfl rfl ?_
      have c965 := (Fb837_kind.keep K964 nin0)
      have c966 := (Fb837_first.keep K964 nin0)
      have c967 := (Fb837_second.keep K964 nin0)
      have c968 := (A837.keep K964)
      refine o_special W964 (y := (⟨"com/example/plebiscite/plebiscite/core/Constraint", "<init>", "(Lcom/example/plebiscite/plebiscite/core/Constraint$Kind;Ljava/lang/String;Ljava/lang/String;)V"⟩ : MethodName)) rfl (w41 hw) (w42 hw) (w43 hw) (by decide) (a := b837) (argsL := [(.ref gA), (.ref b817), (.ref b821)]) (CtrN.back (Wd := 1) W964 (rm30 l Z a0 hw gN gA b837 b817 b821 h964 W964.old SgN_NON_COMMUTING negAgN c968 c965 gz837 c966 c967) (w43 hw) (w32 hw) (by decide) (by decide)) (by rw [hml]; rfl) (lenOf pd9 rfl) (S := [(.ref b837)]) rfl (by exact Nat.le_of_eq rfl) (pc' := 150) (hb hy at_147) rfl (cells' := 11) (slots' := 31) rfl rfl (by decide) (by decide) (wy := [b837]) (fun _ _ _ q => ⟨q.1, q.2.1⟩) (allS ⟨gz837, (Or.inr gb837)⟩ all0) (fun _ _ => trivial) ?_
      intro v969 T969 h969 lo969 W969 K969 q969
      obtain ⟨P969_0, P969_1, P969_2, rfl⟩ := q969.2.2
      show Gl _ _ _ _ _ _ _ _ [(.ref b837)]
      refine o_astore W969 (L' := #[.val (.int p0), .val (.int p1), .val (.int p2), .val (.int 1), .val (.ref b809), .val (.ref b812), .val (.ref b817), .val (.ref b821), .val (.ref b825), .val (.ref b831), .val (.ref b837), .unset, .unset]) (pc' := 152) (hb hy at_150) rfl rfl rfl ?_
      refine o_aload W969 (pc' := 154) (hb hy at_152) rfl rfl rfl ?_
      refine o_aload W969 (pc' := 156) (hb hy at_154) rfl rfl rfl ?_
      have c970 := ((X820.ext E821).keep K824)
      have c971 := ((c970.ext E825).keep K830)
      have c972 := ((c971.ext E831).keep K836)
      have c973 := (((((((((Fv820.ext E821).keep K824 (ninS (own_ne X820.lt ge821) nin0)).ext E825).keep K830 (ninS (own_ne c970.lt ge825) nin0)).ext E831).keep K836 (ninS (own_ne c971.lt ge831) nin0)).ext E837).keep K964 nin0).keep K969 (ninS (own_ne c972.lt ge837) nin0))
      have c974 := (((((((((Fc820.ext E821).keep K824 (ninS (own_ne X820.lt ge821) nin0)).ext E825).keep K830 (ninS (own_ne c970.lt ge825) nin0)).ext E831).keep K836 (ninS (own_ne c971.lt ge831) nin0)).ext E837).keep K964 nin0).keep K969 (ninS (own_ne c972.lt ge837) nin0))
      have c975 := ((B820.ext E821).keep K824 (ninS (own_ne B820.lt ge821) nin0))
      have c976 := ((c975.ext E825).keep K830 (ninS (own_ne c975.lt ge825) nin0))
      have c977 := ((c976.ext E831).keep K836 (ninS (own_ne c976.lt ge831) nin0))
      have c978 := (((((((((B820.ext E821).keep K824 (ninS (own_ne B820.lt ge821) nin0)).ext E825).keep K830 (ninS (own_ne c975.lt ge825) nin0)).ext E831).keep K836 (ninS (own_ne c976.lt ge831) nin0)).ext E837).keep K964 nin0).keep K969 (ninS (own_ne c977.lt ge837) nin0))
      have c979 := ((X830.ext E831).keep K836)
      have c980 := (((((Fv830.ext E831).keep K836 (ninS (own_ne X830.lt ge831) nin0)).ext E837).keep K964 nin0).keep K969 (ninS (own_ne c979.lt ge837) nin0))
      have c981 := (((((Fc830.ext E831).keep K836 (ninS (own_ne X830.lt ge831) nin0)).ext E837).keep K964 nin0).keep K969 (ninS (own_ne c979.lt ge837) nin0))
      have c982 := ((B830.ext E831).keep K836 (ninS (own_ne B830.lt ge831) nin0))
      have c983 := (((((B830.ext E831).keep K836 (ninS (own_ne B830.lt ge831) nin0)).ext E837).keep K964 nin0).keep K969 (ninS (own_ne c982.lt ge837) nin0))
      have c984 := (((c972.ext E837).keep K964).keep K969)
      have c985 := (((c979.ext E837).keep K964).keep K969)
      have c986 := (c968.keep K969)
      refine o_virtual W969 (y := (⟨"com/example/plebiscite/plebiscite/core/Constraint", "other", "(Ljava/lang/String;)Ljava/lang/String;"⟩ : MethodName)) (z := (⟨"com/example/plebiscite/plebiscite/core/Constraint", "other", "(Ljava/lang/String;)Ljava/lang/String;"⟩ : MethodName)) (w85 hw) (w86 hw) (o_nf W969 rfl (w88 hw)) (w88 hw) (w87 hw) (by decide) c986 (argsL := [(.ref b825)]) (CtrN.back (Wd := 0) W969 (rm10 l Z a0 hw gCS b837 b825 b817 t820 kb820 (p0 &&& (255 : Int32)) (((p0.toUInt32 >>> ((8 : Int32) &&& 31).toUInt32).toInt32) &&& (255 : Int32)) t830 kb830 b821 h969 W969.old P969_1 c984 SgCS NgCS c973 c974 c978 (own_b255 _) (own_b255 _) c985 c980 c981 c983 P969_2) (w89 hw) (w32 hw) (by decide) (by decide)) (by rw [hml]; rfl) (lenOf pd11 rfl) (S := []) rfl (by exact Nat.le_of_eq rfl) (pc' := 159) (hb hy at_156) rfl (cells' := 11) (slots' := 31) rfl rfl (by decide) (by decide) (wy := []) (fun _ _ _ q => ⟨q.1, q.2.1⟩) all0 (fun _ _ => trivial) ?_
      intro v987 T987 h987 lo987 W987 K987 q987
      obtain rfl := q987.2.2
      show Gl _ _ _ _ _ _ _ _ [(.ref b821)]
      refine o_astore W987 (L' := #[.val (.int p0), .val (.int p1), .val (.int p2), .val (.int 1), .val (.ref b809), .val (.ref b812), .val (.ref b817), .val (.ref b821), .val (.ref b825), .val (.ref b831), .val (.ref b837), .val (.ref b821), .unset]) (pc' := 161) (hb hy at_159) rfl rfl rfl ?_
      refine o_aload W987 (pc' := 163) (hb hy at_161) rfl rfl rfl ?_
      refine o_aload W987 (pc' := 165) (hb hy at_163) rfl rfl rfl ?_
      have c988 := (P969_1.keep K987 nin0)
      have c989 := (c973.keep K987 nin0)
      have c990 := (c974.keep K987 nin0)
      have c991 := (c978.keep K987 nin0)
      have c992 := ((((Fv836.ext E837).keep K964 nin0).keep K969 (ninS (own_ne X836.lt ge837) nin0)).keep K987 nin0)
      have c993 := ((((Fc836.ext E837).keep K964 nin0).keep K969 (ninS (own_ne X836.lt ge837) nin0)).keep K987 nin0)
      have c994 := ((((B836.ext E837).keep K964 nin0).keep K969 (ninS (own_ne B836.lt ge837) nin0)).keep K987 nin0)
      have c995 := (P969_2.keep K987 nin0)
      have c996 := (c984.keep K987)
      have c997 := ((((X836.ext E837).keep K964).keep K969).keep K987)
      have c998 := (c986.keep K987)
      refine o_virtual W987 (y := (⟨"com/example/plebiscite/plebiscite/core/Constraint", "other", "(Ljava/lang/String;)Ljava/lang/String;"⟩ : MethodName)) (z := (⟨"com/example/plebiscite/plebiscite/core/Constraint", "other", "(Ljava/lang/String;)Ljava/lang/String;"⟩ : MethodName)) (w85 hw) (w86 hw) (o_nf W987 rfl (w88 hw)) (w88 hw) (w87 hw) (by decide) c998 (argsL := [(.ref b831)]) (CtrN.back (Wd := 0) W987 (rm10 l Z a0 hw gCS b837 b831 b817 t820 kb820 (p0 &&& (255 : Int32)) (((p0.toUInt32 >>> ((8 : Int32) &&& 31).toUInt32).toInt32) &&& (255 : Int32)) t836 kb836 b821 h987 W987.old c988 c996 SgCS NgCS c989 c990 c991 (own_b255 _) (own_b255 _) c997 c992 c993 c994 c995) (w89 hw) (w32 hw) (by decide) (by decide)) (by rw [hml]; rfl) (lenOf pd11 rfl) (S := []) rfl (by exact Nat.le_of_eq rfl) (pc' := 168) (hb hy at_165) rfl (cells' := 11) (slots' := 31) rfl rfl (by decide) (by decide) (wy := []) (fun _ _ _ q => ⟨q.1, q.2.1⟩) all0 (fun _ _ => trivial) ?_
      intro v999 T999 h999 lo999 W999 K999 q999
      obtain rfl := q999.2.2
      show Gl _ _ _ _ _ _ _ _ [(.ref b821)]
      refine o_astore W999 (L' := #[.val (.int p0), .val (.int p1), .val (.int p2), .val (.int 1), .val (.ref b809), .val (.ref b812), .val (.ref b817), .val (.ref b821), .val (.ref b825), .val (.ref b831), .val (.ref b837), .val (.ref b821), .val (.ref b821)]) (pc' := 170) (hb hy at_168) rfl rfl rfl ?_
      refine o_aload W999 (pc' := 172) (hb hy at_170) rfl rfl rfl ?_
      refine o_aload W999 (pc' := 174) (hb hy at_172) rfl rfl rfl ?_
      have c1000 := (((((((((X824.ext E825).keep K830).ext E831).keep K836).ext E837).keep K964).keep K969).keep K987).keep K999)
      have c1001 := ((X824.ext E825).keep K830)
      have c1002 := ((c1001.ext E831).keep K836)
      have c1003 := (((((((((Fv824.ext E825).keep K830 (ninS (own_ne X824.lt ge825) nin0)).ext E831).keep K836 (ninS (own_ne c1001.lt ge831) nin0)).ext E837).keep K964 nin0).keep K969 (ninS (own_ne c1002.lt ge837) nin0)).keep K987 nin0).keep K999 nin0)
      have c1004 := (((((((((Fc824.ext E825).keep K830 (ninS (own_ne X824.lt ge825) nin0)).ext E831).keep K836 (ninS (own_ne c1001.lt ge831) nin0)).ext E837).keep K964 nin0).keep K969 (ninS (own_ne c1002.lt ge837) nin0)).keep K987 nin0).keep K999 nin0)
      have c1005 := ((B824.ext E825).keep K830 (ninS (own_ne B824.lt ge825) nin0))
      have c1006 := ((c1005.ext E831).keep K836 (ninS (own_ne c1005.lt ge831) nin0))
      have c1007 := (((((((((B824.ext E825).keep K830 (ninS (own_ne B824.lt ge825) nin0)).ext E831).keep K836 (ninS (own_ne c1005.lt ge831) nin0)).ext E837).keep K964 nin0).keep K969 (ninS (own_ne c1006.lt ge837) nin0)).keep K987 nin0).keep K999 nin0)
      have ok1008 : own_ok [(p0 &&& (255 : Int32)), (((p0.toUInt32 >>> ((8 : Int32) &&& 31).toUInt32).toInt32) &&& (255 : Int32))] := ok835
      have ok1009 : own_ok [(p0 &&& (255 : Int32)), (((p0.toUInt32 >>> ((8 : Int32) &&& 31).toUInt32).toInt32) &&& (255 : Int32))] := ok835
      refine o_virtual W999 (y := (⟨"java/lang/String", "equals", "(Ljava/lang/Object;)Z"⟩ : MethodName)) (z := (⟨"java/lang/String", "equals", "(Ljava/lang/Object;)Z"⟩ : MethodName)) (kc := 0) (ks := 0) (Q := fun v hh L => ((v = some (.int 1) ∧ [(p0 &&& (255 : Int32)), (((p0.toUInt32 >>> ((8 : Int32) &&& 31).toUInt32).toInt32) &&& (255 : Int32))] = [(p0 &&& (255 : Int32)), (((p0.toUInt32 >>> ((8 : Int32) &&& 31).toUInt32).toInt32) &&& (255 : Int32))]) ∨ (v = some (.int 0) ∧ ¬ [(p0 &&& (255 : Int32)), (((p0.toUInt32 >>> ((8 : Int32) &&& 31).toUInt32).toInt32) &&& (255 : Int32))] = [(p0 &&& (255 : Int32)), (((p0.toUInt32 >>> ((8 : Int32) &&& 31).toUInt32).toInt32) &&& (255 : Int32))])) ∧ L = [] ∧ hh = h999) (w99 hw) (w91 hw) (o_nf W999 rfl (w93 hw)) (w93 hw) (w92 hw) (by decide) c1000 (argsL := [(.ref b821)]) (StrChars.Road.eqW (W := 0) W999.2.2.2.1 (own_hE hw) (kI := 4) (w2 hw) c1000 c1003 c1004 c1007 (own_cod ok1008) (own_up ok1008) ok1008.2 c1000 c1003 c1004 c1007 (own_cod ok1009) (own_up ok1009) ok1009.2 (SgCS.ext W999.ox) NgCS (by decide) (by decide)) (by rw [hml]; rfl) (lenOf pd10 rfl) (S := []) rfl (by exact Nat.le_of_eq rfl) (pc' := 177) (hb hy at_174) rfl (cells' := 11) (slots' := 31) rfl rfl (by decide) (by decide) (wy := []) (fun _ _ _ q => own_same q.2) all0 (fun _ _ => trivial) ?_
      intro v1010 T1010 h1010 lo1010 W1010 K1010 q1010
      obtain rfl := own_eqv q1010.1
      show Gl _ _ _ _ _ _ _ _ [(.int (own_eq [(p0 &&& (255 : Int32)), (((p0.toUInt32 >>> ((8 : Int32) &&& 31).toUInt32).toInt32) &&& (255 : Int32))] [(p0 &&& (255 : Int32)), (((p0.toUInt32 >>> ((8 : Int32) &&& 31).toUInt32).toInt32) &&& (255 : Int32))]))]
      refine o_ifN W1010 (pc' := 180) (hb hy at_177) (XT.i0_eq_f (own_eqne _)) rfl ?_
      refine o_aload W1010 (pc' := 182) (hb hy at_180) rfl rfl rfl ?_
      refine o_aload W1010 (pc' := 184) (hb hy at_182) rfl rfl rfl ?_
      have c1011 := (c1000.keep K1010)
      have c1012 := (c1003.keep K1010 nin0)
      have c1013 := (c1004.keep K1010 nin0)
      have c1014 := (c1007.keep K1010 nin0)
      have c1015 := ((c996.keep K999).keep K1010)
      have c1016 := ((c989.keep K999 nin0).keep K1010 nin0)
      have c1017 := ((c990.keep K999 nin0).keep K1010 nin0)
      have c1018 := ((c991.keep K999 nin0).keep K1010 nin0)
      have ok1019 : own_ok [(p0 &&& (255 : Int32)), (((p0.toUInt32 >>> ((8 : Int32) &&& 31).toUInt32).toInt32) &&& (255 : Int32))] := ok835
      have ok1020 : own_ok [(p0 &&& (255 : Int32)), (((p0.toUInt32 >>> ((8 : Int32) &&& 31).toUInt32).toInt32) &&& (255 : Int32))] := ok835
      refine o_virtual W1010 (y := (⟨"java/lang/String", "equals", "(Ljava/lang/Object;)Z"⟩ : MethodName)) (z := (⟨"java/lang/String", "equals", "(Ljava/lang/Object;)Z"⟩ : MethodName)) (kc := 0) (ks := 0) (Q := fun v hh L => ((v = some (.int 1) ∧ [(p0 &&& (255 : Int32)), (((p0.toUInt32 >>> ((8 : Int32) &&& 31).toUInt32).toInt32) &&& (255 : Int32))] = [(p0 &&& (255 : Int32)), (((p0.toUInt32 >>> ((8 : Int32) &&& 31).toUInt32).toInt32) &&& (255 : Int32))]) ∨ (v = some (.int 0) ∧ ¬ [(p0 &&& (255 : Int32)), (((p0.toUInt32 >>> ((8 : Int32) &&& 31).toUInt32).toInt32) &&& (255 : Int32))] = [(p0 &&& (255 : Int32)), (((p0.toUInt32 >>> ((8 : Int32) &&& 31).toUInt32).toInt32) &&& (255 : Int32))])) ∧ L = [] ∧ hh = h1010) (w99 hw) (w91 hw) (o_nf W1010 rfl (w93 hw)) (w93 hw) (w92 hw) (by decide) c1011 (argsL := [(.ref b817)]) (StrChars.Road.eqW (W := 0) W1010.2.2.2.1 (own_hE hw) (kI := 4) (w2 hw) c1011 c1012 c1013 c1014 (own_cod ok1019) (own_up ok1019) ok1019.2 c1015 c1016 c1017 c1018 (own_cod ok1020) (own_up ok1020) ok1020.2 (SgCS.ext W1010.ox) NgCS (by decide) (by decide)) (by rw [hml]; rfl) (lenOf pd10 rfl) (S := []) rfl (by exact Nat.le_of_eq rfl) (pc' := 187) (hb hy at_184) rfl (cells' := 11) (slots' := 31) rfl rfl (by decide) (by decide) (wy := []) (fun _ _ _ q => own_same q.2) all0 (fun _ _ => trivial) ?_
      intro v1021 T1021 h1021 lo1021 W1021 K1021 q1021
      obtain rfl := own_eqv q1021.1
      show Gl _ _ _ _ _ _ _ _ [(.int (own_eq [(p0 &&& (255 : Int32)), (((p0.toUInt32 >>> ((8 : Int32) &&& 31).toUInt32).toInt32) &&& (255 : Int32))] [(p0 &&& (255 : Int32)), (((p0.toUInt32 >>> ((8 : Int32) &&& 31).toUInt32).toInt32) &&& (255 : Int32))]))]
      refine o_ifN W1021 (pc' := 190) (hb hy at_187) (XT.i0_eq_f (own_eqne _)) rfl ?_
      refine o_iconst W1021 (v := 1) (pc' := 191) (hb hy at_190) rfl rfl ?_
      refine o_goto W1021 (pc' := 195) (hb hy at_191) (by decide) rfl ?_
      exact o_retN W1021 hlk (t := .boolean) hret (by simp) (z' := (1 : Int32)) (by decide) (hb hy at_195) (by decide) (by decide) rfl
theorem comes_1 {Post : Tables → Env → Array Value → State → Outcome → State → Prop} (hpost : ∀ tb e args s v u, (limb_1_1.after args s (.returned v) u = true ∧ limb_1_2.after args s (.returned v) u = true ∧ True) → FrameEnd s (.returned v) u (Jvm.fieldLocs frame_1_writes args s ++ Jvm.arrayLocs frame_1_arrays args s ++ Jvm.staticLocs frame_1_statics s) 32 128 → Post tb e args s (.returned v) u) :
    ArmFor flags0 classFile x code maxLocals ret World_1 tables_1 room_1 Calls_1 rest_1 Pre_1 Post := by
  intro l hfl _ _ p e ha hc hk s m args below hf hA hF happ hP
  obtain ⟨hcalls, hrest, hpre⟩ := hP
  obtain ⟨-, -, -, hnamed, -, -, -, hat⟩ := (Spec.applies_iff hf).mp happ
  obtain ⟨hg, hn⟩ := and_e (Cond.before_iff.mp (show (Jvm.Cond.and given_1 narrow_1).before args s = true from hpre))
  obtain ⟨g1, g2⟩ := and_e hg
  obtain ⟨g3, g4⟩ := and_e g2
  obtain ⟨g5, g6⟩ := and_e g4
  obtain ⟨w0, w1, w2, rfl⟩ : ∃ w0 w1 w2 : Value, args = #[w0, w1, w2] := by
    have hs : args.size = 3 := by simpa [Cond.value, given_1] using g1
    obtain ⟨L⟩ := args
    match L, hs with
    | [w0, w1, w2], _ => exact ⟨w0, w1, w2, rfl⟩
  obtain ⟨i0, ei0⟩ := is_v g3
  obtain rfl : w0 = (.int i0) := Option.some.inj ei0
  obtain ⟨i1, ei1⟩ := is_v g5
  obtain rfl : w1 = (.int i1) := Option.some.inj ei1
  obtain ⟨i2, ei2⟩ := is_v g6
  obtain rfl : w2 = (.int i2) := Option.some.inj ei2
  have hw := fun d (hd : d ∈ tables_1) => atoms_spec (ws := Jvm.Cond.code x code maxLocals ret :: tables_1) hat d (List.mem_cons_of_mem _ hd)
  have hfit : Fit s := fun {y c} hc i hi => by
    obtain ⟨ha, rfl⟩ := Array.getElem?_eq_some_iff.mp hc
    have q := List.all_eq_true.mp ((Array.all_eq_true_iff_forall_mem.mp hF) _ (Array.getElem_mem ha)) i (List.mem_range.mpr hi)
    simpa [Array.getElem?_eq_getElem hi] using q
  obtain ⟨hsets, hown0⟩ := atoms_of _ (rest_1_c_eq ▸ (show rest_1_c.before _ s = true from hrest))
  obtain ⟨gCS, eCS⟩ := is_v (Cond.before_iff.mp (hsets _ (List.mem_of_getElem? (i := 1) rfl)))
  have SgCS := Sta.start eCS (Or.inl (hsets _ (List.mem_of_getElem? (i := 0) rfl)))
  have NgCS : ¬ (gCS = (0 : Int32)) := gotF (own_eqS eCS) (not_v (Cond.before_iff.mp (hsets _ (List.mem_of_getElem? (i := 2) rfl))))
  obtain ⟨nn0, hn0⟩ := and_e hn
  obtain ⟨nn1, hn1⟩ := and_e hn0
  obtain ⟨nn2, hn2⟩ := and_e hn1
  obtain ⟨nn3, hn3⟩ := and_e hn2
  obtain ⟨nn4, hn4⟩ := and_e hn3
  obtain ⟨gN, evgN⟩ := exa_v nn0
  have SgN_NON_COMMUTING := Sta.start evgN (Or.inr ⟨(w39 hw), (w40 hw)⟩)
  have XgN := Exa.start evgN nn0
  obtain ⟨gA, evgA⟩ := exa_v nn1
  have SgA_NOT_AFTER := Sta.start evgA (Or.inr ⟨(w39 hw), (w101 hw)⟩)
  have XgA := Exa.start evgA nn1
  have FgA_ordinal := own_fI evgA nn2
  have FgN_ordinal := own_fI evgN nn3
  obtain ⟨gE, evgE⟩ := exa_v nn4
  have SgE_ENABLES := Sta.start evgE (Or.inr ⟨(w39 hw), (w103 hw)⟩)
  have XgE := Exa.start evgE nn4
  have FgE_ordinal := own_fI evgE hn4
  have negAgN : gA ≠ gN := FgA_ordinal.ne FgN_ordinal (by simp)
  have negEgN : gE ≠ gN := FgE_ordinal.ne FgN_ordinal (by simp)
  obtain ⟨n, o, h1, h2, h3, _, L, rfl, ⟨N, -, rfl⟩, hq⟩ := rm_law l s _ hw gCS gN gA gE i0 i1 i2 s.heap (Old.start s) SgCS NgCS SgN_NON_COMMUTING SgE_ENABLES negEgN SgA_NOT_AFTER negAgN p e ha hc hk s m _ below hf ((Spec.applies_iff_loose hf).mp happ).1 ⟨rfl, State.Warmed39.refl s, rfl⟩ trivial
  refine ⟨n, _, h1, h2, h3, hpost _ _ _ _ _ _ ⟨Cond.after_iff.mpr rfl, Cond.after_iff.mpr (eq_i res_at (Term.int_eval (1)) rfl), trivial⟩ ⟨hq.1, hq.2.1, (hq.2.2.sift fun y hy => Or.inr (N y hy)).mono (by decide) (by decide)⟩⟩
theorem main_1_1 : Claimed_1_1 := comes_1 fun _ _ _ _ _ _ h hF => ⟨h.1, hF⟩
theorem main_1_2 : Claimed_1_2 := comes_1 fun _ _ _ _ _ _ h hF => ⟨h.2.1, hF⟩
end Jvm.Pilot.@@N@@
namespace Jvm.Pilot.@@N@@
open Jvm Jvm.ClassFile Sem Op Lib Jvm.Free Jvm.Stand Jvm.Pilot.@@N@@.Jvm.D
/-! MADE BY PROGRAM (witnessworld.py) out of the Statement's table words and the real class files: 24 classes; the members and pool entries that the words name. The judged class is class 1, her method 2. -/
namespace start1
open Jvm.ClassFile
def u (s : String) : CpInfo := .utf8 (stringToUtf16 s)
/-- a pool by its gaps: so many unusable entries, then the entry; so many at the end -/
def gap : Nat → List CpInfo → List CpInfo
  | 0, r => r
  | n + 1, r => .unusable :: gap n r
def poolList (es : List (Nat × CpInfo)) (last : Nat) : List CpInfo := es.foldr (fun e r => gap e.1 (e.2 :: r)) (gap last [])
def pool (es : List (Nat × CpInfo)) (last : Nat) : Array CpInfo := ⟨poolList es last⟩
def fileOf (pool : Array CpInfo) (this : Nat) (attrs : Array Attribute := #[]) (ms : Array MethodInfo := #[]) (fl : Nat := 33) (sup : Nat := 0) (ifs : Array Nat := #[]) (fds : Array FieldInfo := #[]) : ClassFile where
  minorVersion := 0
  majorVersion := 65
  constantPool := pool
  accessFlags := fl
  thisClass := this
  superClass := sup
  interfaces := ifs
  fields := fds
  methods := ms
  attributes := attrs
def plain (name : String) (sup : Option ClassId) : Class where
  name := name
  kind := .ordinary
  loader := none
  accessFlags := 33
  super := sup
  interfaces := #[]
  cf := none
  fields := #[]
  methods := #[]
  instanceTypes := #[]
  staticTypes := #[]
  resolved := #[]
  callSites := []
  init := .initialized
  statics := none
  mirror := none

def pool0 : Array CpInfo := pool [(5, u "<init>"), (0, u "()V"), (1, .class_ 10), (1, u "java/lang/Object")] 113

def k0c0 : Code := { maxStack := 0, maxLocals := 1, code := object_method_1_code, exceptionTable := #[], attributes := #[] }
def k0m0 : Method := { name := "<init>", desc := "()V", sig := { parameters := [], returnType := none }, accessFlags := 1, code := some k0c0 }
/-- java/lang/Object -/
def k0 : Class := { plain "java/lang/Object" none with
  accessFlags := 33
  interfaces := #[]
  cf := some (fileOf pool0 8 #[] #[{ accessFlags := 1, nameIndex := 5, descriptorIndex := 6, attributes := #[] }] 33 0 #[] #[])
  fields := #[]
  methods := #[k0m0]
  instanceTypes := #[]
  staticTypes := #[]
  resolved := Array.replicate 124 none
  statics := none }

def pool1 : Array CpInfo := pool [(2, .class_ 4), (1, u "java/lang/Object"), (0, u "<init>"), (0, u "()V"), (0, .integer 2147483647), (0, .fieldref 9 10), (0, .class_ 11), (0, .nameAndType 12 13), (0, u "com/example/plebiscite/plebiscite/core/Constraint$Kind"), (0, u "NOT_AFTER"), (0, u "Lcom/example/plebiscite/plebiscite/core/Constraint$Kind;"), (0, .fieldref 9 15), (0, .nameAndType 16 13), (0, u "ENABLES"), (0, .fieldref 9 18), (0, .nameAndType 19 13), (0, u "NON_COMMUTING"), (0, .class_ 21), (0, u "java/lang/String"), (0, .methodref 20 23), (0, .nameAndType 5 24), (0, u "([C)V"), (0, .class_ 26), (0, u "com/example/plebiscite/plebiscite/core/Constraint"), (0, .methodref 28 29), (0, .class_ 30), (0, .nameAndType 31 32), (0, u "com/example/plebiscite/plebiscite/core/ConstraintOtherPinLaw"), (0, u "kindOf"), (0, u "(I)Lcom/example/plebiscite/plebiscite/core/Constraint$Kind;"), (0, .methodref 25 34), (0, .nameAndType 5 35), (0, u "(Lcom/example/plebiscite/plebiscite/core/Constraint$Kind;Ljava/lang/String;Ljava/lang/String;)V"), (0, .methodref 25 37), (0, .nameAndType 38 39), (0, u "other"), (0, u "(Ljava/lang/String;)Ljava/lang/String;"), (0, .methodref 20 41), (0, .nameAndType 42 43), (0, u "equals"), (0, u "(Ljava/lang/Object;)Z"), (3, u "law"), (0, u "(III)Z")] 6

def k1m0 : Method := { name := "<init>", desc := "()V", sig := { parameters := [], returnType := none }, accessFlags := 1, code := none }
def k1c1 : Code := { maxStack := 2, maxLocals := 2, code := method_2_code, exceptionTable := #[], attributes := #[] }
def k1m1 : Method := { name := "kindOf", desc := "(I)Lcom/example/plebiscite/plebiscite/core/Constraint$Kind;", sig := { parameters := [.int], returnType := some (.object "com/example/plebiscite/plebiscite/core/Constraint$Kind") }, accessFlags := 10, code := some k1c1 }
def k1c2 : Code := { maxStack := 5, maxLocals := 13, code := code, exceptionTable := #[], attributes := #[] }
def k1m2 : Method := { name := "law", desc := "(III)Z", sig := { parameters := [.int, .int, .int], returnType := some .boolean }, accessFlags := 9, code := some k1c2 }
/-- com/example/plebiscite/plebiscite/core/ConstraintOtherPinLaw -/
def k1 : Class := { plain "com/example/plebiscite/plebiscite/core/ConstraintOtherPinLaw" (some 0) with
  accessFlags := 49
  interfaces := #[]
  cf := some (fileOf pool1 28 #[] #[{ accessFlags := 1, nameIndex := 5, descriptorIndex := 6, attributes := #[] }, { accessFlags := 10, nameIndex := 31, descriptorIndex := 32, attributes := #[] }, { accessFlags := 9, nameIndex := 47, descriptorIndex := 48, attributes := #[] }] 49 2 #[] #[])
  fields := #[]
  methods := #[k1m0, k1m1, k1m2]
  instanceTypes := #[]
  staticTypes := #[]
  resolved := Array.replicate 55 none
  statics := none }

def pool2 : Array CpInfo := pool [(1, .class_ 2), (0, u "java/io/Serializable"), (0, .class_ 4), (0, u "java/lang/Object")] 2

/-- java/io/Serializable -/
def k2 : Class := { plain "java/io/Serializable" (some 0) with
  accessFlags := 1537
  interfaces := #[]
  cf := some (fileOf pool2 1 #[] #[] 1537 3 #[] #[])
  fields := #[]
  methods := #[]
  instanceTypes := #[]
  staticTypes := #[]
  resolved := Array.replicate 7 none
  statics := none }

def pool3 : Array CpInfo := pool [(1, .class_ 2), (0, u "java/lang/Comparable"), (0, .class_ 4), (0, u "java/lang/Object")] 7

/-- java/lang/Comparable -/
def k3 : Class := { plain "java/lang/Comparable" (some 0) with
  accessFlags := 1537
  interfaces := #[]
  cf := some (fileOf pool3 1 #[] #[] 1537 3 #[] #[])
  fields := #[]
  methods := #[]
  instanceTypes := #[]
  staticTypes := #[]
  resolved := Array.replicate 12 none
  statics := none }

def pool4 : Array CpInfo := pool [(2, .class_ 4), (1, u "java/lang/CharSequence"), (42, .class_ 48), (0, u "java/lang/CharSequence$1CodePointIterator"), (10, .class_ 60), (0, u "java/lang/CharSequence$1CharIterator"), (5, .class_ 67), (0, u "java/lang/Object")] 63

/-- java/lang/CharSequence -/
def k4 : Class := { plain "java/lang/CharSequence" (some 0) with
  accessFlags := 1537
  interfaces := #[]
  cf := some (fileOf pool4 2 #[.nestMembers #[47, 59]] #[] 1537 66 #[] #[])
  fields := #[]
  methods := #[]
  instanceTypes := #[]
  staticTypes := #[]
  resolved := Array.replicate 131 none
  statics := none }

def pool5 : Array CpInfo := pool [(1, .class_ 2), (0, u "java/lang/constant/Constable"), (0, .class_ 4), (0, u "java/lang/Object")] 6

/-- java/lang/constant/Constable -/
def k5 : Class := { plain "java/lang/constant/Constable" (some 0) with
  accessFlags := 1537
  interfaces := #[]
  cf := some (fileOf pool5 1 #[] #[] 1537 3 #[] #[])
  fields := #[]
  methods := #[]
  instanceTypes := #[]
  staticTypes := #[]
  resolved := Array.replicate 11 none
  statics := none }

def pool6 : Array CpInfo := pool [(1, .class_ 2), (0, u "java/lang/constant/ConstantDesc"), (0, .class_ 4), (0, u "java/lang/Object")] 32

/-- java/lang/constant/ConstantDesc -/
def k6 : Class := { plain "java/lang/constant/ConstantDesc" (some 0) with
  accessFlags := 1537
  interfaces := #[]
  cf := some (fileOf pool6 1 #[] #[] 1537 3 #[] #[])
  fields := #[]
  methods := #[]
  instanceTypes := #[]
  staticTypes := #[]
  resolved := Array.replicate 37 none
  statics := none }

def pool7 : Array CpInfo := pool [(1, .methodref 2 3), (0, .class_ 4), (0, .nameAndType 5 6), (0, u "java/lang/Object"), (0, u "<init>"), (0, u "()V"), (2, .fieldref 10 11), (0, .class_ 12), (0, .nameAndType 13 14), (0, u "java/lang/String"), (0, u "value"), (0, u "[B"), (0, .fieldref 10 16), (0, .nameAndType 17 18), (0, u "coder"), (0, u "B"), (2, u "hash"), (0, u "I"), (2, u "hashIsZero"), (0, u "Z"), (0, .methodref 10 28), (0, .nameAndType 5 29), (0, u "([CIILjava/lang/Void;)V"), (8, .fieldref 10 39), (0, .nameAndType 40 26), (0, u "COMPACT_STRINGS"), (1, .class_ 44), (1, u "java/lang/StringUTF16"), (0, u "compress"), (1, .methodref 42 48), (0, .nameAndType 49 50), (0, u "coderFromArrayLen"), (0, u "([BI)B"), (56, .class_ 109), (1, u "java/lang/StringLatin1"), (67, .methodref 42 178), (0, .nameAndType 45 179), (0, u "([CII)[B"), (155, .methodref 10 336), (0, .nameAndType 17 337), (0, u "()B"), (203, .methodref 107 542), (0, .nameAndType 543 544), (0, u "equals"), (0, u "([B[B)Z"), (28, u "(Ljava/lang/Object;)Z"), (1, .class_ 576), (0, u "java/lang/CharSequence"), (9, .methodref 107 587), (0, .nameAndType 588 589), (0, u "compareTo"), (0, u "([B[B)I"), (9, u "CASE_INSENSITIVE_ORDER"), (0, u "Ljava/util/Comparator;"), (112, u "(Ljava/lang/String;)I"), (296, u "([C)V"), (90, u "serialPersistentFields"), (0, u "[Ljava/io/ObjectStreamField;"), (0, .class_ 1104), (0, u "java/lang/String$CaseInsensitiveComparator"), (1, .class_ 1107), (0, u "java/io/Serializable"), (0, .class_ 1109), (0, u "java/lang/Comparable"), (0, .class_ 1111), (0, u "java/lang/constant/Constable"), (0, .class_ 1113), (0, u "java/lang/constant/ConstantDesc"), (2, u "serialVersionUID"), (0, u "J"), (3, u "REPL"), (0, u "C"), (2, u "LATIN1"), (1, u "UTF16")] 323

def k7m0 : Method := { name := "<init>", desc := "()V", sig := { parameters := [], returnType := none }, accessFlags := 1, code := none }
def k7c1 : Code := { maxStack := 5, maxLocals := 2, code := jdk_42_method_3_code, exceptionTable := #[], attributes := #[] }
def k7m1 : Method := { name := "<init>", desc := "([C)V", sig := { parameters := [(.array .char)], returnType := none }, accessFlags := 1, code := some k7c1 }
def k7c2 : Code := { maxStack := 2, maxLocals := 3, code := jdk_42_method_66_code, exceptionTable := #[], attributes := #[] }
def k7m2 : Method := { name := "equals", desc := "(Ljava/lang/Object;)Z", sig := { parameters := [(.object "java/lang/Object")], returnType := some .boolean }, accessFlags := 1, code := some k7c2 }
def k7c3 : Code := { maxStack := 2, maxLocals := 5, code := jdk_42_method_71_code, exceptionTable := #[], attributes := #[] }
def k7m3 : Method := { name := "compareTo", desc := "(Ljava/lang/String;)I", sig := { parameters := [(.object "java/lang/String")], returnType := some .int }, accessFlags := 1, code := some k7c3 }
def k7c4 : Code := { maxStack := 4, maxLocals := 6, code := jdk_42_method_149_code, exceptionTable := #[], attributes := #[] }
def k7m4 : Method := { name := "<init>", desc := "([CIILjava/lang/Void;)V", sig := { parameters := [(.array .char), .int, .int, (.object "java/lang/Void")], returnType := none }, accessFlags := 2, code := some k7c4 }
def k7c5 : Code := { maxStack := 1, maxLocals := 1, code := jdk_42_method_152_code, exceptionTable := #[], attributes := #[] }
def k7m5 : Method := { name := "coder", desc := "()B", sig := { parameters := [], returnType := some .byte }, accessFlags := 0, code := some k7c5 }
/-- java/lang/String -/
def k7 : Class := { plain "java/lang/String" (some 0) with
  accessFlags := 49
  interfaces := #[2, 3, 4, 5, 6]
  cf := some (fileOf pool7 10 #[.nestMembers #[1103]] #[{ accessFlags := 1, nameIndex := 5, descriptorIndex := 6, attributes := #[] }, { accessFlags := 1, nameIndex := 5, descriptorIndex := 1010, attributes := #[] }, { accessFlags := 1, nameIndex := 543, descriptorIndex := 573, attributes := #[] }, { accessFlags := 1, nameIndex := 588, descriptorIndex := 713, attributes := #[] }, { accessFlags := 2, nameIndex := 5, descriptorIndex := 29, attributes := #[] }, { accessFlags := 0, nameIndex := 17, descriptorIndex := 337, attributes := #[] }] 49 2 #[1106, 1108, 575, 1110, 1112] #[{ accessFlags := 18, nameIndex := 13, descriptorIndex := 14, attributes := #[] }, { accessFlags := 18, nameIndex := 17, descriptorIndex := 18, attributes := #[] }, { accessFlags := 2, nameIndex := 21, descriptorIndex := 22, attributes := #[] }, { accessFlags := 2, nameIndex := 25, descriptorIndex := 26, attributes := #[] }, { accessFlags := 26, nameIndex := 1116, descriptorIndex := 1117, attributes := #[] }, { accessFlags := 24, nameIndex := 40, descriptorIndex := 26, attributes := #[] }, { accessFlags := 26, nameIndex := 1101, descriptorIndex := 1102, attributes := #[] }, { accessFlags := 26, nameIndex := 1121, descriptorIndex := 1122, attributes := #[] }, { accessFlags := 25, nameIndex := 599, descriptorIndex := 600, attributes := #[] }, { accessFlags := 24, nameIndex := 1125, descriptorIndex := 18, attributes := #[] }, { accessFlags := 24, nameIndex := 1127, descriptorIndex := 18, attributes := #[] }])
  fields := #[{ name := "value", type := (.array .byte), accessFlags := 18, slot := 0, constantValue := 0 }, { name := "coder", type := .byte, accessFlags := 18, slot := 1, constantValue := 0 }, { name := "hash", type := .int, accessFlags := 2, slot := 2, constantValue := 0 }, { name := "hashIsZero", type := .boolean, accessFlags := 2, slot := 3, constantValue := 0 }, { name := "serialVersionUID", type := .long, accessFlags := 26, slot := 0, constantValue := 0 }, { name := "COMPACT_STRINGS", type := .boolean, accessFlags := 24, slot := 1, constantValue := 0 }, { name := "serialPersistentFields", type := (.array (.object "java/io/ObjectStreamField")), accessFlags := 26, slot := 2, constantValue := 0 }, { name := "REPL", type := .char, accessFlags := 26, slot := 3, constantValue := 0 }, { name := "CASE_INSENSITIVE_ORDER", type := (.object "java/util/Comparator"), accessFlags := 25, slot := 4, constantValue := 0 }, { name := "LATIN1", type := .byte, accessFlags := 24, slot := 5, constantValue := 0 }, { name := "UTF16", type := .byte, accessFlags := 24, slot := 6, constantValue := 0 }]
  methods := #[k7m0, k7m1, k7m2, k7m3, k7m4, k7m5]
  instanceTypes := #[(.array .byte), .byte, .int, .boolean]
  staticTypes := #[.long, .boolean, (.array (.object "java/io/ObjectStreamField")), .char, (.object "java/util/Comparator"), .byte, .byte]
  resolved := Array.replicate 1451 none
  statics := some 0 }

def pool8 : Array CpInfo := pool [(6, .class_ 8), (1, u "java/lang/Object"), (0, u "<init>"), (0, u "()V"), (1, .class_ 14), (1, u "java/lang/StringUTF16"), (31, u "$assertionsDisabled"), (0, u "Z"), (13, u "HI_BYTE_SHIFT"), (0, u "I"), (2, u "LO_BYTE_SHIFT"), (49, .methodref 12 116), (0, .nameAndType 117 118), (0, u "compress"), (0, u "([CI[BII)I"), (3, u "([CII)[B"), (138, u "coderFromArrayLen"), (0, u "([BI)B"), (106, .class_ 371), (1, u "java/lang/StringUTF16$LinesSpliterator"), (58, u "MAX_LENGTH"), (196, .class_ 628), (0, u "java/lang/StringUTF16$CodePointsSpliterator"), (0, .class_ 630), (0, u "java/lang/StringUTF16$CharsSpliterator")] 4

def k8m0 : Method := { name := "<init>", desc := "()V", sig := { parameters := [], returnType := none }, accessFlags := 0, code := none }
def k8c1 : Code := { maxStack := 2, maxLocals := 2, code := jdk_52_method_15_code, exceptionTable := #[], attributes := #[] }
def k8m1 : Method := { name := "coderFromArrayLen", desc := "([BI)B", sig := { parameters := [(.array .byte), .int], returnType := some .byte }, accessFlags := 8, code := some k8c1 }
def k8c2 : Code := { maxStack := 5, maxLocals := 6, code := jdk_52_method_16_code, exceptionTable := #[], attributes := #[] }
def k8m2 : Method := { name := "compress", desc := "([CII)[B", sig := { parameters := [(.array .char), .int, .int], returnType := some (.array .byte) }, accessFlags := 9, code := some k8c2 }
def k8c3 : Code := { maxStack := 3, maxLocals := 7, code := jdk_52_method_21_code, exceptionTable := #[], attributes := #[] }
def k8m3 : Method := { name := "compress", desc := "([CI[BII)I", sig := { parameters := [(.array .char), .int, (.array .byte), .int, .int], returnType := some .int }, accessFlags := 9, code := some k8c3 }
/-- java/lang/StringUTF16 -/
def k8 : Class := { plain "java/lang/StringUTF16" (some 0) with
  accessFlags := 48
  interfaces := #[]
  cf := some (fileOf pool8 12 #[.nestMembers #[627, 629, 369]] #[{ accessFlags := 0, nameIndex := 9, descriptorIndex := 10, attributes := #[] }, { accessFlags := 8, nameIndex := 261, descriptorIndex := 262, attributes := #[] }, { accessFlags := 9, nameIndex := 117, descriptorIndex := 122, attributes := #[] }, { accessFlags := 9, nameIndex := 117, descriptorIndex := 118, attributes := #[] }] 48 6 #[] #[{ accessFlags := 26, nameIndex := 61, descriptorIndex := 62, attributes := #[] }, { accessFlags := 26, nameIndex := 65, descriptorIndex := 62, attributes := #[] }, { accessFlags := 24, nameIndex := 430, descriptorIndex := 62, attributes := #[] }, { accessFlags := 4120, nameIndex := 46, descriptorIndex := 47, attributes := #[] }])
  fields := #[{ name := "HI_BYTE_SHIFT", type := .int, accessFlags := 26, slot := 0, constantValue := 0 }, { name := "LO_BYTE_SHIFT", type := .int, accessFlags := 26, slot := 1, constantValue := 0 }, { name := "MAX_LENGTH", type := .int, accessFlags := 24, slot := 2, constantValue := 0 }, { name := "$assertionsDisabled", type := .boolean, accessFlags := 4120, slot := 3, constantValue := 0 }]
  methods := #[k8m0, k8m1, k8m2, k8m3]
  instanceTypes := #[]
  staticTypes := #[.int, .int, .int, .boolean]
  resolved := Array.replicate 635 none
  statics := none }

def pool9 : Array CpInfo := pool [(1, .methodref 2 3), (0, .class_ 4), (0, .nameAndType 5 6), (0, u "java/lang/Object"), (0, u "<init>"), (0, u "()V"), (0, .class_ 8), (0, u "java/lang/Record")] 13

def k9c0 : Code := { maxStack := 1, maxLocals := 1, code := jdk_30_method_1_code, exceptionTable := #[], attributes := #[] }
def k9m0 : Method := { name := "<init>", desc := "()V", sig := { parameters := [], returnType := none }, accessFlags := 4, code := some k9c0 }
/-- java/lang/Record -/
def k9 : Class := { plain "java/lang/Record" (some 0) with
  accessFlags := 1057
  interfaces := #[]
  cf := some (fileOf pool9 7 #[] #[{ accessFlags := 4, nameIndex := 5, descriptorIndex := 6, attributes := #[] }] 1057 2 #[] #[])
  fields := #[]
  methods := #[k9m0]
  instanceTypes := #[]
  staticTypes := #[]
  resolved := Array.replicate 22 none
  statics := none }

def pool10 : Array CpInfo := pool [(1, .methodref 2 3), (0, .class_ 4), (0, .nameAndType 5 6), (0, u "java/lang/Record"), (0, u "<init>"), (0, u "()V"), (0, .fieldref 8 9), (0, .class_ 10), (0, .nameAndType 11 12), (0, u "com/example/plebiscite/plebiscite/core/Constraint$Kind"), (0, u "NON_COMMUTING"), (0, u "Lcom/example/plebiscite/plebiscite/core/Constraint$Kind;"), (0, .methodref 14 15), (0, .class_ 16), (0, .nameAndType 17 18), (0, u "java/lang/String"), (0, u "compareTo"), (0, u "(Ljava/lang/String;)I"), (0, .fieldref 20 21), (0, .class_ 22), (0, .nameAndType 23 12), (0, u "com/example/plebiscite/plebiscite/core/Constraint"), (0, u "kind"), (0, .fieldref 20 25), (0, .nameAndType 26 27), (0, u "first"), (0, u "Ljava/lang/String;"), (0, .fieldref 20 29), (0, .nameAndType 30 27), (0, u "second"), (5, u "(Lcom/example/plebiscite/plebiscite/core/Constraint$Kind;Ljava/lang/String;Ljava/lang/String;)V"), (16, .methodref 14 54), (0, .nameAndType 55 56), (0, u "equals"), (0, u "(Ljava/lang/Object;)Z"), (21, u "other"), (0, u "(Ljava/lang/String;)Ljava/lang/String;")] 29

def k10c0 : Code := { maxStack := 2, maxLocals := 5, code := prog_19_method_1_code, exceptionTable := #[], attributes := #[] }
def k10m0 : Method := { name := "<init>", desc := "(Lcom/example/plebiscite/plebiscite/core/Constraint$Kind;Ljava/lang/String;Ljava/lang/String;)V", sig := { parameters := [(.object "com/example/plebiscite/plebiscite/core/Constraint$Kind"), (.object "java/lang/String"), (.object "java/lang/String")], returnType := none }, accessFlags := 0, code := some k10c0 }
def k10c1 : Code := { maxStack := 2, maxLocals := 2, code := prog_19_method_7_code, exceptionTable := #[], attributes := #[] }
def k10m1 : Method := { name := "other", desc := "(Ljava/lang/String;)Ljava/lang/String;", sig := { parameters := [(.object "java/lang/String")], returnType := some (.object "java/lang/String") }, accessFlags := 0, code := some k10c1 }
/-- com/example/plebiscite/plebiscite/core/Constraint -/
def k10 : Class := { plain "com/example/plebiscite/plebiscite/core/Constraint" (some 9) with
  accessFlags := 48
  interfaces := #[]
  cf := some (fileOf pool10 20 #[.nestMembers #[8]] #[{ accessFlags := 0, nameIndex := 5, descriptorIndex := 36, attributes := #[] }, { accessFlags := 0, nameIndex := 78, descriptorIndex := 79, attributes := #[] }] 48 2 #[] #[{ accessFlags := 18, nameIndex := 23, descriptorIndex := 12, attributes := #[] }, { accessFlags := 18, nameIndex := 26, descriptorIndex := 27, attributes := #[] }, { accessFlags := 18, nameIndex := 30, descriptorIndex := 27, attributes := #[] }])
  fields := #[{ name := "kind", type := (.object "com/example/plebiscite/plebiscite/core/Constraint$Kind"), accessFlags := 18, slot := 0, constantValue := 0 }, { name := "first", type := (.object "java/lang/String"), accessFlags := 18, slot := 1, constantValue := 0 }, { name := "second", type := (.object "java/lang/String"), accessFlags := 18, slot := 2, constantValue := 0 }]
  methods := #[k10m0, k10m1]
  instanceTypes := #[(.object "com/example/plebiscite/plebiscite/core/Constraint$Kind"), (.object "java/lang/String"), (.object "java/lang/String")]
  staticTypes := #[]
  resolved := Array.replicate 109 none
  statics := none }

def pool11 : Array CpInfo := pool [(2, .class_ 4), (1, u "java/lang/Enum"), (0, u "name"), (0, u "Ljava/lang/String;"), (2, u "ordinal"), (0, u "I"), (1, .class_ 14), (1, u "java/lang/Object"), (4, u "hash"), (86, .class_ 108), (1, u "java/lang/Enum$EnumDesc"), (2, .class_ 112), (0, u "java/lang/constant/Constable"), (0, .class_ 114), (0, u "java/lang/Comparable"), (0, .class_ 116), (0, u "java/io/Serializable")] 87

/-- java/lang/Enum -/
def k11 : Class := { plain "java/lang/Enum" (some 0) with
  accessFlags := 1057
  interfaces := #[5, 3, 2]
  cf := some (fileOf pool11 2 #[.nestMembers #[106]] #[] 1057 12 #[111, 113, 115] #[{ accessFlags := 18, nameIndex := 5, descriptorIndex := 6, attributes := #[] }, { accessFlags := 18, nameIndex := 9, descriptorIndex := 10, attributes := #[] }, { accessFlags := 2, nameIndex := 19, descriptorIndex := 10, attributes := #[] }])
  fields := #[{ name := "name", type := (.object "java/lang/String"), accessFlags := 18, slot := 0, constantValue := 0 }, { name := "ordinal", type := .int, accessFlags := 18, slot := 1, constantValue := 0 }, { name := "hash", type := .int, accessFlags := 2, slot := 2, constantValue := 0 }]
  methods := #[]
  instanceTypes := #[(.object "java/lang/String"), .int, .int]
  staticTypes := #[]
  resolved := Array.replicate 204 none
  statics := none }

def pool12 : Array CpInfo := pool [(1, .class_ 2), (0, u "com/example/plebiscite/plebiscite/core/Constraint$Kind"), (2, u "NOT_AFTER"), (0, u "Lcom/example/plebiscite/plebiscite/core/Constraint$Kind;"), (2, u "ENABLES"), (2, u "NON_COMMUTING"), (2, u "$VALUES"), (0, u "[Lcom/example/plebiscite/plebiscite/core/Constraint$Kind;"), (6, .class_ 25), (1, u "java/lang/Enum"), (8, u "label"), (0, u "Ljava/lang/String;"), (30, .class_ 67), (0, u "com/example/plebiscite/plebiscite/core/Constraint")] 2

/-- com/example/plebiscite/plebiscite/core/Constraint$Kind -/
def k12 : Class := { plain "com/example/plebiscite/plebiscite/core/Constraint$Kind" (some 11) with
  accessFlags := 16432
  interfaces := #[]
  cf := some (fileOf pool12 1 #[.nestHost 66] #[] 16432 23 #[] #[{ accessFlags := 16409, nameIndex := 5, descriptorIndex := 6, attributes := #[] }, { accessFlags := 16409, nameIndex := 9, descriptorIndex := 6, attributes := #[] }, { accessFlags := 16409, nameIndex := 12, descriptorIndex := 6, attributes := #[] }, { accessFlags := 18, nameIndex := 34, descriptorIndex := 35, attributes := #[] }, { accessFlags := 4122, nameIndex := 15, descriptorIndex := 16, attributes := #[] }])
  fields := #[{ name := "NOT_AFTER", type := (.object "com/example/plebiscite/plebiscite/core/Constraint$Kind"), accessFlags := 16409, slot := 0, constantValue := 0 }, { name := "ENABLES", type := (.object "com/example/plebiscite/plebiscite/core/Constraint$Kind"), accessFlags := 16409, slot := 1, constantValue := 0 }, { name := "NON_COMMUTING", type := (.object "com/example/plebiscite/plebiscite/core/Constraint$Kind"), accessFlags := 16409, slot := 2, constantValue := 0 }, { name := "label", type := (.object "java/lang/String"), accessFlags := 18, slot := 3, constantValue := 0 }, { name := "$VALUES", type := (.array (.object "com/example/plebiscite/plebiscite/core/Constraint$Kind")), accessFlags := 4122, slot := 3, constantValue := 0 }]
  methods := #[]
  instanceTypes := #[(.object "java/lang/String"), .int, .int, (.object "java/lang/String")]
  staticTypes := #[(.object "com/example/plebiscite/plebiscite/core/Constraint$Kind"), (.object "com/example/plebiscite/plebiscite/core/Constraint$Kind"), (.object "com/example/plebiscite/plebiscite/core/Constraint$Kind"), (.array (.object "com/example/plebiscite/plebiscite/core/Constraint$Kind"))]
  resolved := Array.replicate 70 none
  statics := some 1 }

def pool13 : Array CpInfo := pool [(4, .class_ 6), (1, u "java/lang/Object"), (0, u "<init>"), (0, u "()V"), (5, .class_ 16), (1, u "java/lang/StringLatin1"), (17, .methodref 14 35), (0, .nameAndType 36 37), (0, u "compareTo"), (0, u "([B[BII)I"), (0, .methodref 39 40), (0, .class_ 41), (0, .nameAndType 42 43), (0, u "java/lang/Math"), (0, u "min"), (0, u "(II)I"), (0, .methodref 45 46), (0, .class_ 47), (0, .nameAndType 48 49), (0, u "jdk/internal/util/ArraysSupport"), (0, u "mismatch"), (0, u "([B[BI)I"), (0, .methodref 14 51), (0, .nameAndType 52 53), (0, u "getChar"), (0, u "([BI)C"), (67, u "$assertionsDisabled"), (0, u "Z"), (98, .class_ 223), (1, u "java/lang/StringLatin1$LinesSpliterator"), (57, u "equals"), (0, u "([B[B)Z"), (4, u "([B[B)I"), (102, .class_ 391), (0, u "java/lang/StringLatin1$CharsSpliterator")] 3

def k13m0 : Method := { name := "<init>", desc := "()V", sig := { parameters := [], returnType := none }, accessFlags := 0, code := none }
def k13c1 : Code := { maxStack := 3, maxLocals := 3, code := jdk_43_method_13_code, exceptionTable := #[], attributes := #[] }
def k13m1 : Method := { name := "equals", desc := "([B[B)Z", sig := { parameters := [(.array .byte), (.array .byte)], returnType := some .boolean }, accessFlags := 9, code := some k13c1 }
def k13c2 : Code := { maxStack := 4, maxLocals := 4, code := jdk_43_method_14_code, exceptionTable := #[], attributes := #[] }
def k13m2 : Method := { name := "compareTo", desc := "([B[B)I", sig := { parameters := [(.array .byte), (.array .byte)], returnType := some .int }, accessFlags := 9, code := some k13c2 }
def k13c3 : Code := { maxStack := 3, maxLocals := 6, code := jdk_43_method_15_code, exceptionTable := #[], attributes := #[] }
def k13m3 : Method := { name := "compareTo", desc := "([B[BII)I", sig := { parameters := [(.array .byte), (.array .byte), .int, .int], returnType := some .int }, accessFlags := 9, code := some k13c3 }
def k13c4 : Code := { maxStack := 2, maxLocals := 2, code := jdk_43_method_44_code, exceptionTable := #[], attributes := #[] }
def k13m4 : Method := { name := "getChar", desc := "([BI)C", sig := { parameters := [(.array .byte), .int], returnType := some .char }, accessFlags := 9, code := some k13c4 }
/-- java/lang/StringLatin1 -/
def k13 : Class := { plain "java/lang/StringLatin1" (some 0) with
  accessFlags := 48
  interfaces := #[]
  cf := some (fileOf pool13 14 #[.nestMembers #[390, 221]] #[{ accessFlags := 0, nameIndex := 7, descriptorIndex := 8, attributes := #[] }, { accessFlags := 9, nameIndex := 281, descriptorIndex := 282, attributes := #[] }, { accessFlags := 9, nameIndex := 36, descriptorIndex := 287, attributes := #[] }, { accessFlags := 9, nameIndex := 36, descriptorIndex := 37, attributes := #[] }, { accessFlags := 9, nameIndex := 52, descriptorIndex := 53, attributes := #[] }] 48 4 #[] #[{ accessFlags := 4120, nameIndex := 121, descriptorIndex := 122, attributes := #[] }])
  fields := #[{ name := "$assertionsDisabled", type := .boolean, accessFlags := 4120, slot := 0, constantValue := 0 }]
  methods := #[k13m0, k13m1, k13m2, k13m3, k13m4]
  instanceTypes := #[]
  staticTypes := #[.boolean]
  resolved := Array.replicate 395 none
  statics := none }

def pool14 : Array CpInfo := pool [(1, .class_ 2), (0, u "java/lang/Math"), (1, .class_ 6), (1, u "java/lang/Object"), (0, u "<init>"), (0, u "()V"), (89, .class_ 100), (1, u "java/lang/Math$RandomNumberGeneratorHolder"), (71, u "negativeZeroFloatBits"), (0, u "J"), (2, u "negativeZeroDoubleBits"), (24, u "min"), (43, u "$assertionsDisabled"), (0, u "Z"), (88, u "(II)I"), (2, u "twoToTheDoubleScaleDown"), (0, u "D"), (4, u "twoToTheDoubleScaleUp"), (9, u "E"), (3, u "PI"), (2, u "TAU"), (2, u "DEGREES_TO_RADIANS"), (0, u "RADIANS_TO_DEGREES")] 94

def k14m0 : Method := { name := "<init>", desc := "()V", sig := { parameters := [], returnType := none }, accessFlags := 2, code := none }
def k14c1 : Code := { maxStack := 2, maxLocals := 2, code := jdk_29_method_69_code, exceptionTable := #[], attributes := #[] }
def k14m1 : Method := { name := "min", desc := "(II)I", sig := { parameters := [.int, .int], returnType := some .int }, accessFlags := 9, code := some k14c1 }
/-- java/lang/Math -/
def k14 : Class := { plain "java/lang/Math" (some 0) with
  accessFlags := 49
  interfaces := #[]
  cf := some (fileOf pool14 1 #[.nestMembers #[98]] #[{ accessFlags := 2, nameIndex := 7, descriptorIndex := 8, attributes := #[] }, { accessFlags := 9, nameIndex := 201, descriptorIndex := 335, attributes := #[] }] 49 4 #[] #[{ accessFlags := 25, nameIndex := 354, descriptorIndex := 339, attributes := #[] }, { accessFlags := 25, nameIndex := 358, descriptorIndex := 339, attributes := #[] }, { accessFlags := 25, nameIndex := 361, descriptorIndex := 339, attributes := #[] }, { accessFlags := 26, nameIndex := 364, descriptorIndex := 339, attributes := #[] }, { accessFlags := 26, nameIndex := 365, descriptorIndex := 339, attributes := #[] }, { accessFlags := 26, nameIndex := 172, descriptorIndex := 173, attributes := #[] }, { accessFlags := 26, nameIndex := 176, descriptorIndex := 173, attributes := #[] }, { accessFlags := 8, nameIndex := 344, descriptorIndex := 339, attributes := #[] }, { accessFlags := 8, nameIndex := 338, descriptorIndex := 339, attributes := #[] }, { accessFlags := 4120, nameIndex := 245, descriptorIndex := 246, attributes := #[] }])
  fields := #[{ name := "E", type := .double, accessFlags := 25, slot := 0, constantValue := 0 }, { name := "PI", type := .double, accessFlags := 25, slot := 1, constantValue := 0 }, { name := "TAU", type := .double, accessFlags := 25, slot := 2, constantValue := 0 }, { name := "DEGREES_TO_RADIANS", type := .double, accessFlags := 26, slot := 3, constantValue := 0 }, { name := "RADIANS_TO_DEGREES", type := .double, accessFlags := 26, slot := 4, constantValue := 0 }, { name := "negativeZeroFloatBits", type := .long, accessFlags := 26, slot := 5, constantValue := 0 }, { name := "negativeZeroDoubleBits", type := .long, accessFlags := 26, slot := 6, constantValue := 0 }, { name := "twoToTheDoubleScaleUp", type := .double, accessFlags := 8, slot := 7, constantValue := 0 }, { name := "twoToTheDoubleScaleDown", type := .double, accessFlags := 8, slot := 8, constantValue := 0 }, { name := "$assertionsDisabled", type := .boolean, accessFlags := 4120, slot := 9, constantValue := 0 }]
  methods := #[k14m0, k14m1]
  instanceTypes := #[]
  staticTypes := #[.double, .double, .double, .double, .double, .long, .long, .double, .double, .boolean]
  resolved := Array.replicate 460 none
  statics := none }

def pool15 : Array CpInfo := pool [(9, u "<init>"), (6, .class_ 18), (1, u "java/lang/Object"), (0, u "()V"), (1, .class_ 23), (1, u "jdk/internal/util/ArraysSupport"), (0, u "LOG2_ARRAY_LONG_INDEX_SCALE"), (0, u "I"), (2, u "U"), (0, u "Ljdk/internal/misc/Unsafe;"), (8, u "BIG_ENDIAN"), (0, u "Z"), (8, u "LOG2_BYTE_BIT_SIZE"), (4, u "LOG2_ARRAY_INT_INDEX_SCALE"), (54, u "JLA"), (0, u "Ljdk/internal/access/JavaLangAccess;"), (11, u "LOG2_ARRAY_BOOLEAN_INDEX_SCALE"), (9, u "LOG2_ARRAY_BYTE_INDEX_SCALE"), (5, u "LOG2_ARRAY_CHAR_INDEX_SCALE"), (5, u "LOG2_ARRAY_SHORT_INDEX_SCALE"), (5, u "mismatch"), (12, u "LOG2_ARRAY_FLOAT_INDEX_SCALE"), (24, u "LOG2_ARRAY_DOUBLE_INDEX_SCALE"), (89, u "T_BOOLEAN"), (2, u "T_CHAR"), (1, u "T_FLOAT"), (1, u "T_DOUBLE"), (1, u "T_BYTE"), (1, u "T_SHORT"), (1, u "T_INT"), (1, u "T_LONG"), (1, u "SOFT_MAX_ARRAY_LENGTH"), (41, u "([B[BI)I")] 41

def k15m0 : Method := { name := "<init>", desc := "()V", sig := { parameters := [], returnType := none }, accessFlags := 2, code := none }
def k15c1 : Code := { maxStack := 8, maxLocals := 4, code := jdk_48_method_13_code, exceptionTable := #[], attributes := #[] }
def k15m1 : Method := { name := "mismatch", desc := "([B[BI)I", sig := { parameters := [(.array .byte), (.array .byte), .int], returnType := some .int }, accessFlags := 9, code := some k15c1 }
/-- jdk/internal/util/ArraysSupport -/
def k15 : Class := { plain "jdk/internal/util/ArraysSupport" (some 0) with
  accessFlags := 33
  interfaces := #[]
  cf := some (fileOf pool15 21 #[] #[{ accessFlags := 2, nameIndex := 9, descriptorIndex := 19, attributes := #[] }, { accessFlags := 9, nameIndex := 149, descriptorIndex := 336, attributes := #[] }] 33 16 #[] #[{ accessFlags := 24, nameIndex := 28, descriptorIndex := 29, attributes := #[] }, { accessFlags := 26, nameIndex := 38, descriptorIndex := 39, attributes := #[] }, { accessFlags := 25, nameIndex := 121, descriptorIndex := 25, attributes := #[] }, { accessFlags := 25, nameIndex := 131, descriptorIndex := 25, attributes := #[] }, { accessFlags := 25, nameIndex := 137, descriptorIndex := 25, attributes := #[] }, { accessFlags := 25, nameIndex := 143, descriptorIndex := 25, attributes := #[] }, { accessFlags := 25, nameIndex := 53, descriptorIndex := 25, attributes := #[] }, { accessFlags := 25, nameIndex := 24, descriptorIndex := 25, attributes := #[] }, { accessFlags := 25, nameIndex := 162, descriptorIndex := 25, attributes := #[] }, { accessFlags := 25, nameIndex := 187, descriptorIndex := 25, attributes := #[] }, { accessFlags := 26, nameIndex := 48, descriptorIndex := 25, attributes := #[] }, { accessFlags := 25, nameIndex := 277, descriptorIndex := 25, attributes := #[] }, { accessFlags := 25, nameIndex := 280, descriptorIndex := 25, attributes := #[] }, { accessFlags := 25, nameIndex := 282, descriptorIndex := 25, attributes := #[] }, { accessFlags := 25, nameIndex := 284, descriptorIndex := 25, attributes := #[] }, { accessFlags := 25, nameIndex := 286, descriptorIndex := 25, attributes := #[] }, { accessFlags := 25, nameIndex := 288, descriptorIndex := 25, attributes := #[] }, { accessFlags := 25, nameIndex := 290, descriptorIndex := 25, attributes := #[] }, { accessFlags := 25, nameIndex := 292, descriptorIndex := 25, attributes := #[] }, { accessFlags := 26, nameIndex := 108, descriptorIndex := 109, attributes := #[] }, { accessFlags := 25, nameIndex := 294, descriptorIndex := 25, attributes := #[] }])
  fields := #[{ name := "U", type := (.object "jdk/internal/misc/Unsafe"), accessFlags := 24, slot := 0, constantValue := 0 }, { name := "BIG_ENDIAN", type := .boolean, accessFlags := 26, slot := 1, constantValue := 0 }, { name := "LOG2_ARRAY_BOOLEAN_INDEX_SCALE", type := .int, accessFlags := 25, slot := 2, constantValue := 0 }, { name := "LOG2_ARRAY_BYTE_INDEX_SCALE", type := .int, accessFlags := 25, slot := 3, constantValue := 0 }, { name := "LOG2_ARRAY_CHAR_INDEX_SCALE", type := .int, accessFlags := 25, slot := 4, constantValue := 0 }, { name := "LOG2_ARRAY_SHORT_INDEX_SCALE", type := .int, accessFlags := 25, slot := 5, constantValue := 0 }, { name := "LOG2_ARRAY_INT_INDEX_SCALE", type := .int, accessFlags := 25, slot := 6, constantValue := 0 }, { name := "LOG2_ARRAY_LONG_INDEX_SCALE", type := .int, accessFlags := 25, slot := 7, constantValue := 0 }, { name := "LOG2_ARRAY_FLOAT_INDEX_SCALE", type := .int, accessFlags := 25, slot := 8, constantValue := 0 }, { name := "LOG2_ARRAY_DOUBLE_INDEX_SCALE", type := .int, accessFlags := 25, slot := 9, constantValue := 0 }, { name := "LOG2_BYTE_BIT_SIZE", type := .int, accessFlags := 26, slot := 10, constantValue := 0 }, { name := "T_BOOLEAN", type := .int, accessFlags := 25, slot := 11, constantValue := 0 }, { name := "T_CHAR", type := .int, accessFlags := 25, slot := 12, constantValue := 0 }, { name := "T_FLOAT", type := .int, accessFlags := 25, slot := 13, constantValue := 0 }, { name := "T_DOUBLE", type := .int, accessFlags := 25, slot := 14, constantValue := 0 }, { name := "T_BYTE", type := .int, accessFlags := 25, slot := 15, constantValue := 0 }, { name := "T_SHORT", type := .int, accessFlags := 25, slot := 16, constantValue := 0 }, { name := "T_INT", type := .int, accessFlags := 25, slot := 17, constantValue := 0 }, { name := "T_LONG", type := .int, accessFlags := 25, slot := 18, constantValue := 0 }, { name := "JLA", type := (.object "jdk/internal/access/JavaLangAccess"), accessFlags := 26, slot := 19, constantValue := 0 }, { name := "SOFT_MAX_ARRAY_LENGTH", type := .int, accessFlags := 25, slot := 20, constantValue := 0 }]
  methods := #[k15m0, k15m1]
  instanceTypes := #[]
  staticTypes := #[(.object "jdk/internal/misc/Unsafe"), .boolean, .int, .int, .int, .int, .int, .int, .int, .int, .int, .int, .int, .int, .int, .int, .int, .int, .int, (.object "jdk/internal/access/JavaLangAccess"), .int]
  resolved := Array.replicate 378 none
  statics := none }

def pool16 : Array CpInfo := pool [(2, .class_ 4), (1, u "java/lang/Object"), (0, u "<init>"), (0, u "()V"), (17, .class_ 26), (1, u "jdk/internal/util/Preconditions"), (28, .class_ 56), (0, u "jdk/internal/util/Preconditions$4"), (57, .class_ 115), (0, u "jdk/internal/util/Preconditions$1"), (7, u "SIOOBE_FORMATTER"), (0, u "Ljava/util/function/BiFunction;"), (0, .class_ 126), (0, u "jdk/internal/util/Preconditions$2"), (3, u "AIOOBE_FORMATTER"), (0, .class_ 132), (0, u "jdk/internal/util/Preconditions$3"), (3, u "IOOBE_FORMATTER")] 57

def k16m0 : Method := { name := "<init>", desc := "()V", sig := { parameters := [], returnType := none }, accessFlags := 1, code := none }
/-- jdk/internal/util/Preconditions -/
def k16 : Class := { plain "jdk/internal/util/Preconditions" (some 0) with
  accessFlags := 33
  interfaces := #[]
  cf := some (fileOf pool16 24 #[.nestMembers #[55, 131, 125, 114]] #[{ accessFlags := 1, nameIndex := 5, descriptorIndex := 6, attributes := #[] }] 33 2 #[] #[{ accessFlags := 25, nameIndex := 123, descriptorIndex := 124, attributes := #[] }, { accessFlags := 25, nameIndex := 130, descriptorIndex := 124, attributes := #[] }, { accessFlags := 25, nameIndex := 136, descriptorIndex := 124, attributes := #[] }])
  fields := #[{ name := "SIOOBE_FORMATTER", type := (.object "java/util/function/BiFunction"), accessFlags := 25, slot := 0, constantValue := 0 }, { name := "AIOOBE_FORMATTER", type := (.object "java/util/function/BiFunction"), accessFlags := 25, slot := 1, constantValue := 0 }, { name := "IOOBE_FORMATTER", type := (.object "java/util/function/BiFunction"), accessFlags := 25, slot := 2, constantValue := 0 }]
  methods := #[k16m0]
  instanceTypes := #[]
  staticTypes := #[(.object "java/util/function/BiFunction"), (.object "java/util/function/BiFunction"), (.object "java/util/function/BiFunction")]
  resolved := Array.replicate 194 none
  statics := some 2 }

def pool17 : Array CpInfo := pool [(1, u "java/lang/Cloneable"), (0, .class_ 1), (0, u "java/lang/Object"), (0, .class_ 3)] 3

/-- java/lang/Cloneable -/
def k17 : Class := { plain "java/lang/Cloneable" (some 0) with
  accessFlags := 1537
  interfaces := #[]
  cf := some (fileOf pool17 2 #[] #[] 1537 4 #[] #[])
  fields := #[]
  methods := #[]
  instanceTypes := #[]
  staticTypes := #[]
  resolved := Array.replicate 8 none
  statics := none }

/-- the primitive byte -/
def k18 : Class := { plain "byte" none with kind := .primitive 'B', accessFlags := 0x411 }
/-- [B -/
def k19 : Class := { plain "[B" (some 0) with kind := .array 18 .byte, interfaces := #[17, 2], accessFlags := 1041 }

/-- the primitive char -/
def k20 : Class := { plain "char" none with kind := .primitive 'C', accessFlags := 0x411 }
/-- [C -/
def k21 : Class := { plain "[C" (some 0) with kind := .array 20 .char, interfaces := #[17, 2], accessFlags := 1041 }

/-- the primitive int -/
def k22 : Class := { plain "int" none with kind := .primitive 'I', accessFlags := 0x411 }
/-- [I -/
def k23 : Class := { plain "[I" (some 0) with kind := .array 22 .int, interfaces := #[17, 2], accessFlags := 1041 }

def heap : Heap := #[{ cls := 7, slots := #[.long 0, .int 1, .null, .int 0, .null, .int 0, .int 0], vm := .statics 7 },
  { cls := 12, slots := #[.ref 3, .ref 4, .ref 5, .null], vm := .statics 12 },
  { cls := 16, slots := #[.null, .null, .null], vm := .statics 16 },
  { cls := 12, slots := #[.null, .int 0, .int 0, .null], vm := .none },
  { cls := 12, slots := #[.null, .int 1, .int 0, .null], vm := .none },
  { cls := 12, slots := #[.null, .int 2, .int 0, .null], vm := .none }]
def classes : Array Class := #[k0, k1, k2, k3, k4, k5, k6, k7, k8, k9, k10, k11, k12, k13, k14, k15, k16, k17, k18, k19, k20, k21, k22, k23]
def interned : List (Array UInt16 × Addr) := []
def slotsUsed : Nat := 26
def theMethod : MethodId := ⟨1, 2⟩
def args0 : Array Value := #[.int 5, .int 6, .int 7]
def aboutOver (below : List Frame) : State where
  vm := { classes := classes, interned := interned.toArray }
  heap := heap
  slotsUsed := slotsUsed
  threads := #[{ frames := .invoking theMethod args0 :: below }]
def below0 : List Frame := [.native { method := ⟨0, 0⟩, args := #[] }]
def about1 : State := aboutOver below0
def p0 : Program := .bare "" "" ""
def e0 : Env := launch0.env 0 0 0
theorem w_frames : about1.frames = Frame.invoking theMethod args0 :: below0 := rfl
set_option maxRecDepth 65536 in
theorem w_args : argsFit about1.vm theMethod args0 = true := by decide +kernel
set_option maxRecDepth 65536 in
theorem w_heap : heapFits about1 = true := by decide +kernel
set_option maxRecDepth 65536 in
theorem w_runnable : about1.curStatus? = some .runnable := by decide +kernel
set_option maxRecDepth 65536 in
theorem w_alone : about1.alone = true := by decide +kernel
set_option maxRecDepth 65536 in
theorem w_named : about1.methodNamed? x = some theMethod := by decide +kernel
set_option maxRecDepth 65536 in
theorem w_hears : about1.hears theMethod below0 = true := by decide +kernel
set_option maxRecDepth 65536 in
theorem w_ripe : about1.ripe theMethod args0 below0 = true := by decide +kernel
theorem w_running : about1.status = .running := rfl
set_option maxRecDepth 65536 in
theorem w_room : about1.hasRoom e0.platform room_1 = true :=
  launch0.hasRoom_least _ room_1 (by decide +kernel) (by decide +kernel) (by decide +kernel) (by decide +kernel) (by decide +kernel) (by decide +kernel)
theorem allAtoms_all (ts : List Jvm.Cond) (a : Array Jvm.Value) (st : Jvm.State) : (allAtoms ts).before a st = ts.all (fun c => c.before a st) := by
  induction ts with
  | nil => rfl
  | cons c t ih =>
    show (Jvm.Cond.and c (allAtoms t)).before a st = _
    rw [Jvm.Cond.before_and, ih, List.all_cons]
def words1 : List Jvm.Cond := Jvm.Cond.code x code maxLocals ret :: tables_1
/-- a 'code' word, met by the world's own term for the bytes: nothing is compared byte by byte -/
theorem code_word {y : MethodName} {bytes : ByteArray} {mx : Nat} {rt : Option FieldType} {a : Array Value} {s : State} {m : MethodId} {meth : Method} {c : Code} (h1 : s.methodNamed? y = some m) (h2 : s.vm.method? m = some meth) (h3 : meth.code = some c) (h4 : c.code = bytes)
    (h5 : (c.maxLocals == mx && c.exceptionTable.isEmpty && decide (c.maxStack ≤ mostOperands) && decide (meth.sig.returnType = rt) && !meth.locks && decide (parseMethodDescriptor y.desc = some meth.sig)) = true) : (Jvm.Cond.code y bytes mx rt).before a s = true := by
  simp only [Bool.and_eq_true, beq_iff_eq, Bool.not_eq_true', decide_eq_true_eq] at h5
  obtain ⟨⟨⟨⟨⟨g1, g2⟩, g3⟩, g4⟩, g5⟩, g6⟩ := h5
  simp [Cond.before, Cond.holds, Cond.value, h1, h2, h3, h4, g1, g2, g3, g4, g5, g6]
def isCode : Jvm.Cond → Bool
  | .code _ _ _ _ => true
  | _ => false
theorem all_split {L : List Jvm.Cond} {P : Jvm.Cond → Bool} (h1 : L.all (fun c => isCode c || P c) = true) (h2 : ∀ c ∈ L.filter isCode, P c = true) : L.all P = true := by
  refine List.all_eq_true.mpr fun c hc => ?_
  have h := List.all_eq_true.mp h1 c hc
  rcases Bool.eq_false_or_eq_true (isCode c) with hi | hi
  · exact h2 c (List.mem_filter.mpr ⟨hc, hi⟩)
  · simpa [hi] using h
set_option maxRecDepth 65536 in
theorem w_c0 : (Jvm.Cond.code x code maxLocals ret).before args0 about1 = true := code_word (m := ⟨1, 2⟩) (meth := k1m2) (c := k1c2) (by decide +kernel) rfl rfl rfl (by decide +kernel)
set_option maxRecDepth 65536 in
theorem w_c1 : (Jvm.Cond.code ({ cls := "java/lang/String", name := "<init>", desc := "([C)V" } : Jvm.MethodName) jdk_42_method_3_code (2 : Nat) (Option.none : Option Jvm.ClassFile.FieldType)).before args0 about1 = true := code_word (m := ⟨7, 1⟩) (meth := k7m1) (c := k7c1) (by decide +kernel) rfl rfl rfl (by decide +kernel)
set_option maxRecDepth 65536 in
theorem w_c2 : (Jvm.Cond.code ({ cls := "java/lang/String", name := "<init>", desc := "([CIILjava/lang/Void;)V" } : Jvm.MethodName) jdk_42_method_149_code (6 : Nat) (Option.none : Option Jvm.ClassFile.FieldType)).before args0 about1 = true := code_word (m := ⟨7, 4⟩) (meth := k7m4) (c := k7c4) (by decide +kernel) rfl rfl rfl (by decide +kernel)
set_option maxRecDepth 65536 in
theorem w_c3 : (Jvm.Cond.code ({ cls := "java/lang/Object", name := "<init>", desc := "()V" } : Jvm.MethodName) object_method_1_code (1 : Nat) (Option.none : Option Jvm.ClassFile.FieldType)).before args0 about1 = true := code_word (m := ⟨0, 0⟩) (meth := k0m0) (c := k0c0) (by decide +kernel) rfl rfl rfl (by decide +kernel)
set_option maxRecDepth 65536 in
theorem w_c4 : (Jvm.Cond.code ({ cls := "java/lang/StringUTF16", name := "compress", desc := "([CII)[B" } : Jvm.MethodName) jdk_52_method_16_code (6 : Nat) (Option.some (Jvm.ClassFile.FieldType.array Jvm.ClassFile.FieldType.byte))).before args0 about1 = true := code_word (m := ⟨8, 2⟩) (meth := k8m2) (c := k8c2) (by decide +kernel) rfl rfl rfl (by decide +kernel)
set_option maxRecDepth 65536 in
theorem w_c5 : (Jvm.Cond.code ({ cls := "java/lang/StringUTF16", name := "compress", desc := "([CI[BII)I" } : Jvm.MethodName) jdk_52_method_21_code (7 : Nat) (Option.some Jvm.ClassFile.FieldType.int)).before args0 about1 = true := code_word (m := ⟨8, 3⟩) (meth := k8m3) (c := k8c3) (by decide +kernel) rfl rfl rfl (by decide +kernel)
set_option maxRecDepth 65536 in
theorem w_c6 : (Jvm.Cond.code ({ cls := "java/lang/StringUTF16", name := "coderFromArrayLen", desc := "([BI)B" } : Jvm.MethodName) jdk_52_method_15_code (2 : Nat) (Option.some Jvm.ClassFile.FieldType.byte)).before args0 about1 = true := code_word (m := ⟨8, 1⟩) (meth := k8m1) (c := k8c1) (by decide +kernel) rfl rfl rfl (by decide +kernel)
set_option maxRecDepth 65536 in
theorem w_c7 : (Jvm.Cond.code ({ cls := "com/example/plebiscite/plebiscite/core/ConstraintOtherPinLaw", name := "kindOf", desc := "(I)Lcom/example/plebiscite/plebiscite/core/Constraint$Kind;" } : Jvm.MethodName) method_2_code (2 : Nat) (Option.some (Jvm.ClassFile.FieldType.object "com/example/plebiscite/plebiscite/core/Constraint$Kind"))).before args0 about1 = true := code_word (m := ⟨1, 1⟩) (meth := k1m1) (c := k1c1) (by decide +kernel) rfl rfl rfl (by decide +kernel)
set_option maxRecDepth 65536 in
theorem w_c8 : (Jvm.Cond.code ({ cls := "com/example/plebiscite/plebiscite/core/Constraint", name := "<init>", desc := "(Lcom/example/plebiscite/plebiscite/core/Constraint$Kind;Ljava/lang/String;Ljava/lang/String;)V" } : Jvm.MethodName) prog_19_method_1_code (5 : Nat) (Option.none : Option Jvm.ClassFile.FieldType)).before args0 about1 = true := code_word (m := ⟨10, 0⟩) (meth := k10m0) (c := k10c0) (by decide +kernel) rfl rfl rfl (by decide +kernel)
set_option maxRecDepth 65536 in
theorem w_c9 : (Jvm.Cond.code ({ cls := "java/lang/Record", name := "<init>", desc := "()V" } : Jvm.MethodName) jdk_30_method_1_code (1 : Nat) (Option.none : Option Jvm.ClassFile.FieldType)).before args0 about1 = true := code_word (m := ⟨9, 0⟩) (meth := k9m0) (c := k9c0) (by decide +kernel) rfl rfl rfl (by decide +kernel)
set_option maxRecDepth 65536 in
theorem w_c10 : (Jvm.Cond.code ({ cls := "java/lang/String", name := "compareTo", desc := "(Ljava/lang/String;)I" } : Jvm.MethodName) jdk_42_method_71_code (5 : Nat) (Option.some Jvm.ClassFile.FieldType.int)).before args0 about1 = true := code_word (m := ⟨7, 3⟩) (meth := k7m3) (c := k7c3) (by decide +kernel) rfl rfl rfl (by decide +kernel)
set_option maxRecDepth 65536 in
theorem w_c11 : (Jvm.Cond.code ({ cls := "java/lang/String", name := "coder", desc := "()B" } : Jvm.MethodName) jdk_42_method_152_code (1 : Nat) (Option.some Jvm.ClassFile.FieldType.byte)).before args0 about1 = true := code_word (m := ⟨7, 5⟩) (meth := k7m5) (c := k7c5) (by decide +kernel) rfl rfl rfl (by decide +kernel)
set_option maxRecDepth 65536 in
theorem w_c12 : (Jvm.Cond.code ({ cls := "java/lang/StringLatin1", name := "compareTo", desc := "([B[B)I" } : Jvm.MethodName) jdk_43_method_14_code (4 : Nat) (Option.some Jvm.ClassFile.FieldType.int)).before args0 about1 = true := code_word (m := ⟨13, 2⟩) (meth := k13m2) (c := k13c2) (by decide +kernel) rfl rfl rfl (by decide +kernel)
set_option maxRecDepth 65536 in
theorem w_c13 : (Jvm.Cond.code ({ cls := "java/lang/StringLatin1", name := "compareTo", desc := "([B[BII)I" } : Jvm.MethodName) jdk_43_method_15_code (6 : Nat) (Option.some Jvm.ClassFile.FieldType.int)).before args0 about1 = true := code_word (m := ⟨13, 3⟩) (meth := k13m3) (c := k13c3) (by decide +kernel) rfl rfl rfl (by decide +kernel)
set_option maxRecDepth 65536 in
theorem w_c14 : (Jvm.Cond.code ({ cls := "java/lang/Math", name := "min", desc := "(II)I" } : Jvm.MethodName) jdk_29_method_69_code (2 : Nat) (Option.some Jvm.ClassFile.FieldType.int)).before args0 about1 = true := code_word (m := ⟨14, 1⟩) (meth := k14m1) (c := k14c1) (by decide +kernel) rfl rfl rfl (by decide +kernel)
set_option maxRecDepth 65536 in
theorem w_c15 : (Jvm.Cond.code ({ cls := "jdk/internal/util/ArraysSupport", name := "mismatch", desc := "([B[BI)I" } : Jvm.MethodName) jdk_48_method_13_code (4 : Nat) (Option.some Jvm.ClassFile.FieldType.int)).before args0 about1 = true := code_word (m := ⟨15, 1⟩) (meth := k15m1) (c := k15c1) (by decide +kernel) rfl rfl rfl (by decide +kernel)
set_option maxRecDepth 65536 in
theorem w_c16 : (Jvm.Cond.code ({ cls := "java/lang/StringLatin1", name := "getChar", desc := "([BI)C" } : Jvm.MethodName) jdk_43_method_44_code (2 : Nat) (Option.some Jvm.ClassFile.FieldType.char)).before args0 about1 = true := code_word (m := ⟨13, 4⟩) (meth := k13m4) (c := k13c4) (by decide +kernel) rfl rfl rfl (by decide +kernel)
set_option maxRecDepth 65536 in
theorem w_c17 : (Jvm.Cond.code ({ cls := "com/example/plebiscite/plebiscite/core/Constraint", name := "other", desc := "(Ljava/lang/String;)Ljava/lang/String;" } : Jvm.MethodName) prog_19_method_7_code (2 : Nat) (Option.some (Jvm.ClassFile.FieldType.object "java/lang/String"))).before args0 about1 = true := code_word (m := ⟨10, 1⟩) (meth := k10m1) (c := k10c1) (by decide +kernel) rfl rfl rfl (by decide +kernel)
set_option maxRecDepth 65536 in
theorem w_c18 : (Jvm.Cond.code ({ cls := "java/lang/String", name := "equals", desc := "(Ljava/lang/Object;)Z" } : Jvm.MethodName) jdk_42_method_66_code (3 : Nat) (Option.some Jvm.ClassFile.FieldType.boolean)).before args0 about1 = true := code_word (m := ⟨7, 2⟩) (meth := k7m2) (c := k7c2) (by decide +kernel) rfl rfl rfl (by decide +kernel)
set_option maxRecDepth 65536 in
theorem w_c19 : (Jvm.Cond.code ({ cls := "java/lang/StringLatin1", name := "equals", desc := "([B[B)Z" } : Jvm.MethodName) jdk_43_method_13_code (3 : Nat) (Option.some Jvm.ClassFile.FieldType.boolean)).before args0 about1 = true := code_word (m := ⟨13, 1⟩) (meth := k13m1) (c := k13c1) (by decide +kernel) rfl rfl rfl (by decide +kernel)
def codes1 : List Jvm.Cond := [Jvm.Cond.code x code maxLocals ret, Jvm.Cond.code ({ cls := "java/lang/String", name := "<init>", desc := "([C)V" } : Jvm.MethodName) jdk_42_method_3_code (2 : Nat) (Option.none : Option Jvm.ClassFile.FieldType), Jvm.Cond.code ({ cls := "java/lang/String", name := "<init>", desc := "([CIILjava/lang/Void;)V" } : Jvm.MethodName) jdk_42_method_149_code (6 : Nat) (Option.none : Option Jvm.ClassFile.FieldType), Jvm.Cond.code ({ cls := "java/lang/Object", name := "<init>", desc := "()V" } : Jvm.MethodName) object_method_1_code (1 : Nat) (Option.none : Option Jvm.ClassFile.FieldType), Jvm.Cond.code ({ cls := "java/lang/StringUTF16", name := "compress", desc := "([CII)[B" } : Jvm.MethodName) jdk_52_method_16_code (6 : Nat) (Option.some (Jvm.ClassFile.FieldType.array Jvm.ClassFile.FieldType.byte)), Jvm.Cond.code ({ cls := "java/lang/StringUTF16", name := "compress", desc := "([CI[BII)I" } : Jvm.MethodName) jdk_52_method_21_code (7 : Nat) (Option.some Jvm.ClassFile.FieldType.int), Jvm.Cond.code ({ cls := "java/lang/StringUTF16", name := "coderFromArrayLen", desc := "([BI)B" } : Jvm.MethodName) jdk_52_method_15_code (2 : Nat) (Option.some Jvm.ClassFile.FieldType.byte), Jvm.Cond.code ({ cls := "com/example/plebiscite/plebiscite/core/ConstraintOtherPinLaw", name := "kindOf", desc := "(I)Lcom/example/plebiscite/plebiscite/core/Constraint$Kind;" } : Jvm.MethodName) method_2_code (2 : Nat) (Option.some (Jvm.ClassFile.FieldType.object "com/example/plebiscite/plebiscite/core/Constraint$Kind")), Jvm.Cond.code ({ cls := "com/example/plebiscite/plebiscite/core/Constraint", name := "<init>", desc := "(Lcom/example/plebiscite/plebiscite/core/Constraint$Kind;Ljava/lang/String;Ljava/lang/String;)V" } : Jvm.MethodName) prog_19_method_1_code (5 : Nat) (Option.none : Option Jvm.ClassFile.FieldType), Jvm.Cond.code ({ cls := "java/lang/Record", name := "<init>", desc := "()V" } : Jvm.MethodName) jdk_30_method_1_code (1 : Nat) (Option.none : Option Jvm.ClassFile.FieldType), Jvm.Cond.code ({ cls := "java/lang/String", name := "compareTo", desc := "(Ljava/lang/String;)I" } : Jvm.MethodName) jdk_42_method_71_code (5 : Nat) (Option.some Jvm.ClassFile.FieldType.int), Jvm.Cond.code ({ cls := "java/lang/String", name := "coder", desc := "()B" } : Jvm.MethodName) jdk_42_method_152_code (1 : Nat) (Option.some Jvm.ClassFile.FieldType.byte), Jvm.Cond.code ({ cls := "java/lang/StringLatin1", name := "compareTo", desc := "([B[B)I" } : Jvm.MethodName) jdk_43_method_14_code (4 : Nat) (Option.some Jvm.ClassFile.FieldType.int), Jvm.Cond.code ({ cls := "java/lang/StringLatin1", name := "compareTo", desc := "([B[BII)I" } : Jvm.MethodName) jdk_43_method_15_code (6 : Nat) (Option.some Jvm.ClassFile.FieldType.int), Jvm.Cond.code ({ cls := "java/lang/Math", name := "min", desc := "(II)I" } : Jvm.MethodName) jdk_29_method_69_code (2 : Nat) (Option.some Jvm.ClassFile.FieldType.int), Jvm.Cond.code ({ cls := "jdk/internal/util/ArraysSupport", name := "mismatch", desc := "([B[BI)I" } : Jvm.MethodName) jdk_48_method_13_code (4 : Nat) (Option.some Jvm.ClassFile.FieldType.int), Jvm.Cond.code ({ cls := "java/lang/StringLatin1", name := "getChar", desc := "([BI)C" } : Jvm.MethodName) jdk_43_method_44_code (2 : Nat) (Option.some Jvm.ClassFile.FieldType.char), Jvm.Cond.code ({ cls := "com/example/plebiscite/plebiscite/core/Constraint", name := "other", desc := "(Ljava/lang/String;)Ljava/lang/String;" } : Jvm.MethodName) prog_19_method_7_code (2 : Nat) (Option.some (Jvm.ClassFile.FieldType.object "java/lang/String")), Jvm.Cond.code ({ cls := "java/lang/String", name := "equals", desc := "(Ljava/lang/Object;)Z" } : Jvm.MethodName) jdk_42_method_66_code (3 : Nat) (Option.some Jvm.ClassFile.FieldType.boolean), Jvm.Cond.code ({ cls := "java/lang/StringLatin1", name := "equals", desc := "([B[B)Z" } : Jvm.MethodName) jdk_43_method_13_code (3 : Nat) (Option.some Jvm.ClassFile.FieldType.boolean)]
set_option maxRecDepth 65536 in
theorem codes_eq : words1.filter isCode = codes1 := rfl
theorem w_codes : ∀ c ∈ words1.filter isCode, c.before args0 about1 = true := by
  rw [codes_eq]
  intro c hc
  simp only [codes1, List.mem_cons, List.not_mem_nil, or_false] at hc
  rcases hc with rfl | rfl | rfl | rfl | rfl | rfl | rfl | rfl | rfl | rfl | rfl | rfl | rfl | rfl | rfl | rfl | rfl | rfl | rfl | rfl
  · exact w_c0
  · exact w_c1
  · exact w_c2
  · exact w_c3
  · exact w_c4
  · exact w_c5
  · exact w_c6
  · exact w_c7
  · exact w_c8
  · exact w_c9
  · exact w_c10
  · exact w_c11
  · exact w_c12
  · exact w_c13
  · exact w_c14
  · exact w_c15
  · exact w_c16
  · exact w_c17
  · exact w_c18
  · exact w_c19
set_option maxRecDepth 65536 in
theorem w_t1 : (words1.take 24).all (fun c => isCode c || c.before args0 about1) = true := by decide +kernel
set_option maxRecDepth 65536 in
theorem w_t2 : ((words1.drop 24).take 24).all (fun c => isCode c || c.before args0 about1) = true := by decide +kernel
set_option maxRecDepth 65536 in
theorem w_t3 : (((words1.drop 24).drop 24).take 24).all (fun c => isCode c || c.before args0 about1) = true := by decide +kernel
set_option maxRecDepth 65536 in
theorem w_t4 : ((((words1.drop 24).drop 24).drop 24).take 24).all (fun c => isCode c || c.before args0 about1) = true := by decide +kernel
set_option maxRecDepth 65536 in
theorem w_t5 : ((((words1.drop 24).drop 24).drop 24).drop 24).all (fun c => isCode c || c.before args0 about1) = true := by decide +kernel
theorem w_tables : (allAtoms (Jvm.Cond.code x code maxLocals ret :: tables_1)).before args0 about1 = true := by
  rw [allAtoms_all]
  show words1.all (fun c => c.before args0 about1) = true
  refine all_split ?_ w_codes
  rw [← List.take_append_drop 24 words1, List.all_append, w_t1, ← List.take_append_drop 24 (words1.drop 24), List.all_append, w_t2, ← List.take_append_drop 24 ((words1.drop 24).drop 24), List.all_append, w_t3, ← List.take_append_drop 24 (((words1.drop 24).drop 24).drop 24), List.all_append, w_t4, w_t5]
  rfl
set_option maxRecDepth 65536 in
theorem w_rest : rest_1_c.before args0 about1 = true := by decide +kernel
set_option maxRecDepth 65536 in
theorem w_case : (Jvm.Cond.and given_1 narrow_1).before args0 about1 = true := by decide +kernel
theorem w_applies : (headSpec (Jvm.Cond.code x code maxLocals ret :: tables_1) room_1).applies x e0.platform about1 = true :=
  (Spec.applies_iff w_frames).mpr ⟨w_running, w_runnable, w_alone, w_named, w_hears, w_ripe, w_room, w_tables⟩
theorem atStart : AtStart classFile x code maxLocals ret World_1 tables_1 room_1 Calls_1 rest_1 Pre_1 launch0 p0 e0 about1 theMethod args0 below0 :=
  ⟨lists_1, trivial, launch0.admits_env _ _ _, launch0.least_env, fairChoices_fair.cas, fairChoices_fair.clock, w_frames, w_args, w_heap, w_applies, trivial, w_rest, w_case⟩
end start1
theorem witness_1 : WitnessClaimed_1 := ⟨start1.p0, start1.e0, start1.about1, start1.theMethod, start1.args0, start1.below0, start1.atStart⟩
end Jvm.Pilot.@@N@@
