import JvmDerived
import JvmDerived.Pilot.@@N@@Statement
import JvmDerived.Pilot.@@N@@Code
set_option linter.unusedVariables false
set_option linter.unusedSimpArgs false
/- laws to paste: Road.backV, Road.eqW (cut by pick.py; bodies as the Statement names them) -/
namespace Jvm.Pilot.@@N@@
namespace StrChars
open Jvm Sem ClassFile Op Lib Jvm.Stand Jvm.Free.XT Jvm.Free.ALB Jvm.Free.JM Jvm.Free
open Jvm.Lib.Cold (StaticIs)
/-- a char array whose places are chars -/
def Ch (a : Addr) (A : Cell) (U : State) : Prop := Arr .char a A U ∧ Typed .char A
theorem Ch.mv {a : Addr} {A : Cell} {U U' : State} (h : Ch a A U) (hal : U.vm.Alike U'.vm) (hh : U'.heap = U.heap) : Ch a A U' := ⟨h.1.mv hal hh, h.2⟩
theorem Ch.keep {a : Addr} {A : Cell} {U U' : State} (h : Ch a A U) (hal : U.vm.Alike U'.vm) (hk : U'.heap[a]? = some A) : Ch a A U' := ⟨h.1.keep hal hk, h.2⟩
/-- what place i of a char[]'s cell holds -/
def cv (A : Cell) (i : Nat) : Int32 := match A.slots[i]? with | some (.int x) => x | _ => 0
theorem Ch.get {a : Addr} {A : Cell} {U : State} (h : Ch a A U) {i : Nat} (hi : i < A.slots.size) : A.slots[i]? = some (.int (cv A i)) := by
  have e := Array.getElem?_eq_getElem hi
  have f := h.2 i _ e
  unfold cv; rw [e]
  generalize A.slots[i] = v at f
  cases v <;> simp [fits] at f ⊢
/-- the byte that i2b leaves of a char -/
def lo8 (x : Int32) : Int32 := x.toInt8.toInt32
theorem fits_lo8 (y : Int32) : fits .byte (.int (lo8 y)) = true := by
  have h1 := y.toInt8.le_toInt
  have h2 := y.toInt8.toInt_lt
  simp only [lo8, fits, Bool.and_eq_true, decide_eq_true_eq, Int32.le_iff_toInt_le, Int8.toInt_toInt32, show (-128 : Int32).toInt = -128 from by decide, show (127 : Int32).toInt = 127 from by decide]
  omega
/-- A' is A but that each place j of lo .. hi - 1 holds f j -/
def Laid (A A' : Cell) (lo hi : Nat) (f : Nat → Value) : Prop := A'.cls = A.cls ∧ A'.vm = A.vm ∧ A'.slots.size = A.slots.size ∧ ∀ i, A'.slots[i]? = if lo ≤ i ∧ i < hi then some (f i) else A.slots[i]?
theorem Laid.zero (A : Cell) (lo : Nat) (f : Nat → Value) : Laid A A lo (lo + 0) f := ⟨rfl, rfl, rfl, fun i => by rw [if_neg (by omega)]⟩
theorem Laid.step {A Ak : Cell} {lo k : Nat} {f : Nat → Value} {v : Value} (h : Laid A Ak lo k f) (hlo : lo ≤ k) (hk : k < Ak.slots.size) (hv : v = f k) : Laid A (Ak.setSlot k v) lo (k + 1) f := by
  refine ⟨h.1, h.2.1, by simpa [Cell.setSlot] using h.2.2.1, fun i => ?_⟩
  by_cases e : k = i
  · subst e; rw [Cell.slots_setSlot_self v hk, if_pos (by omega), hv]
  · rw [Cell.slots_setSlot_ne v e, h.2.2.2 i]
    by_cases q : lo ≤ i ∧ i < k
    · rw [if_pos q, if_pos (by omega)]
    · rw [if_neg q, if_neg (by omega)]
def U16 : String := "java/lang/StringUTF16"
namespace Cmp5
def yN : MethodName := ⟨"java/lang/StringUTF16", "compress", "([CI[BII)I"⟩
abbrev yB : ByteArray := jdk_52_method_21_code
theorem d0 : decode yB 0 = .ok (.iconst 0, 1) := by decide +kernel
theorem d1 : decode yB 1 = .ok (.istore 5, 2) := by decide +kernel
theorem d3 : decode yB 3 = .ok (.iload 5, 2) := by decide +kernel
theorem d5 : decode yB 5 = .ok (.iload 4, 2) := by decide +kernel
theorem d7 : decode yB 7 = .ok (.if_icmp (.ge) 37, 3) := by decide +kernel
theorem d10 : decode yB 10 = .ok (.aload_n 0, 1) := by decide +kernel
theorem d11 : decode yB 11 = .ok (.iload_n 1, 1) := by decide +kernel
theorem d12 : decode yB 12 = .ok (.caload, 1) := by decide +kernel
theorem d13 : decode yB 13 = .ok (.istore 6, 2) := by decide +kernel
theorem d15 : decode yB 15 = .ok (.iload 6, 2) := by decide +kernel
theorem d17 : decode yB 17 = .ok (.sipush 255, 3) := by decide +kernel
theorem d20 : decode yB 20 = .ok (.if_icmp (.le) 6, 3) := by decide +kernel
theorem d26 : decode yB 26 = .ok (.aload_n 2, 1) := by decide +kernel
theorem d27 : decode yB 27 = .ok (.iload_n 3, 1) := by decide +kernel
theorem d28 : decode yB 28 = .ok (.iload 6, 2) := by decide +kernel
theorem d30 : decode yB 30 = .ok (.i2b, 1) := by decide +kernel
theorem d31 : decode yB 31 = .ok (.bastore, 1) := by decide +kernel
theorem d32 : decode yB 32 = .ok (.iinc 1 1, 3) := by decide +kernel
theorem d35 : decode yB 35 = .ok (.iinc 3 1, 3) := by decide +kernel
theorem d38 : decode yB 38 = .ok (.iinc 5 1, 3) := by decide +kernel
theorem d41 : decode yB 41 = .ok (.goto (-38), 3) := by decide +kernel
theorem d44 : decode yB 44 = .ok (.iload 4, 2) := by decide +kernel
theorem d46 : decode yB 46 = .ok (.ireturn, 1) := by decide +kernel
def site : List Cond := []
def tab : Cond := tabOf yN yB 7 (some .int) site
def P (b : Addr) (A : Cell) (d : Addr) (B : Cell) (o q len : Nat) (args : Array Value) (s : State) : Prop := args = #[.ref b, .int (Int32.ofNat o), .ref d, .int (Int32.ofNat q), .int (Int32.ofNat len)] ∧ Ch b A s ∧ Arr .byte d B s ∧ b ≠ d ∧ o + len ≤ A.slots.size ∧ q + len ≤ B.slots.size ∧ ∀ i, i < len → ¬ 255 < cv A (o + i)
def E (b : Addr) (A : Cell) (d : Addr) (B : Cell) (o q len : Nat) (r : Option Value) (s u : State) : Prop := r = some (.int (Int32.ofNat len)) ∧ ∃ B', Put d B' s u ∧ Laid B B' q (q + len) (fun j => Value.int (lo8 (cv A (o + (j - q)))))
/-- no char of the range above 255: len; the places written hold each char's low byte -/
theorem law (l : Launch) (b : Addr) (A : Cell) (d : Addr) (B : Cell) (o q len : Nat) : Law l yN 5 5 0 0 yB 7 (some .int) site (P b A d B o q len) (E b A d B o q len) (copyLocs d q len) 0 0 := by
  refine Law.of_walk (plainFor_of_name (by decide +kernel)) (by decide +kernel) (by decide +kernel) (by decide) (fun _ _ h => by rw [h.1]; rfl) (fun _ U U' hal hh h => ⟨h.1, h.2.1.mv hal hh, h.2.2.1.mv hal hh, h.2.2.2⟩) (fun r U U' V V' h1 hal h2 h => ⟨h.1, h.2.elim fun B' q => ⟨B', q.1.mv h1 h2, q.2⟩⟩) ?_
  intro p e s m args below meth c s₁ X0 hexec hbytes hml hret hlk hnm hown hh0 W hP
  obtain ⟨rfl, hA, hB, hne, l1, l2, hp⟩ := hP
  have c1 : Steps p.tables e below (s₁.setTop (entryFrame m #[.ref b, .int (Int32.ofNat o), .ref d, .int (Int32.ofNat q), .int (Int32.ofNat len)] 7)) (s₁.setTop (mkF m 0 #[.val (.ref b), .val (.int (Int32.ofNat o)), .val (.ref d), .val (.int (Int32.ofNat q)), .val (.int (Int32.ofNat len)), .unset, .unset] [])) := entry rfl
  have hA0 := hA.1.mv X0.warmed.alike hh0
  have hB0 := hB.mv X0.warmed.alike hh0
  have a31 := hA.1.2.2.2
  have c2 : Steps p.tables e below (s₁.setTop (entryFrame m #[.ref b, .int (Int32.ofNat o), .ref d, .int (Int32.ofNat q), .int (Int32.ofNat len)] 7)) (s₁.setTop (mkF m 3 #[.val (.ref b), .val (.int (Int32.ofNat o)), .val (.ref d), .val (.int (Int32.ofNat q)), .val (.int (Int32.ofNat len)), .val (.int 0), .unset] [])) := c1.trans (by
    refine iconstV X0.here hexec rfl 0 (hb hbytes d0) (by decide) ?_
    refine XS.istore X0.here hexec rfl (hb hbytes d1) rfl rfl ?_
    exact Steps.refl _)
  have loop : ∀ (r i : Nat), i + r = len → ∀ (z : Slot), (z = .unset ∨ ∃ w, z = .val w ∧ w.category = 1) → ∀ (Tl : State) (Bk : Cell), Stand p l e { frames := 0, locals := 0, cells := 0, slots := 0 } s m #[.ref b, .int (Int32.ofNat o), .ref d, .int (Int32.ofNat q), .int (Int32.ofNat len)] below meth c Tl ([] ++ copyLocs d q i) 0 0 → Put d Bk s₁ Tl → Laid B Bk q (q + i) (fun j => Value.int (lo8 (cv A (o + (j - q))))) →
      Steps p.tables e below (s₁.setTop (entryFrame m #[.ref b, .int (Int32.ofNat o), .ref d, .int (Int32.ofNat q), .int (Int32.ofNat len)] 7)) (Tl.setTop (mkF m 3 #[.val (.ref b), .val (.int (Int32.ofNat (o + i))), .val (.ref d), .val (.int (Int32.ofNat (q + i))), .val (.int (Int32.ofNat len)), .val (.int (Int32.ofNat i)), z] [])) → ∃ (T' : State) (B' : Cell) (z' : Slot), Stand p l e { frames := 0, locals := 0, cells := 0, slots := 0 } s m #[.ref b, .int (Int32.ofNat o), .ref d, .int (Int32.ofNat q), .int (Int32.ofNat len)] below meth c T' ([] ++ copyLocs d q len) 0 0 ∧ Put d B' s₁ T' ∧ Laid B B' q (q + len) (fun j => Value.int (lo8 (cv A (o + (j - q))))) ∧
      Steps p.tables e below (s₁.setTop (entryFrame m #[.ref b, .int (Int32.ofNat o), .ref d, .int (Int32.ofNat q), .int (Int32.ofNat len)] 7)) (T'.setTop (mkF m 3 #[.val (.ref b), .val (.int (Int32.ofNat (o + len))), .val (.ref d), .val (.int (Int32.ofNat (q + len))), .val (.int (Int32.ofNat len)), .val (.int (Int32.ofNat len)), z'] [])) := by
    intro r
    induction r with
    | zero =>
      intro i hi z hz Tl Bk Xl pl fl cl
      have hil : i = len := by omega
      rw [hil] at Xl fl cl
      exact ⟨Tl, Bk, z, Xl, pl, fl, cl⟩
    | succ r ih =>
      intro i hi z hz Tl Bk Xl pl fl cl
      have all := X0.warmed.alike.symm.trans Xl.warmed.alike
      have hAl := hA0.keep all (pl.other hne hA0.1)
      have hBk := hB0.like all pl.1 fl.1 fl.2.1 fl.2.2.1
      have hlt : q + i < Bk.slots.size := by rw [fl.2.2.1]; omega
      have c3 : Steps p.tables e below (s₁.setTop (entryFrame m #[.ref b, .int (Int32.ofNat o), .ref d, .int (Int32.ofNat q), .int (Int32.ofNat len)] 7)) (Tl.setTop (mkF m 12 #[.val (.ref b), .val (.int (Int32.ofNat (o + i))), .val (.ref d), .val (.int (Int32.ofNat (q + i))), .val (.int (Int32.ofNat len)), .val (.int (Int32.ofNat i)), z] [.int (Int32.ofNat (o + i)), .ref b])) := cl.trans (by
        refine XS.iload Xl.here hexec rfl (hb hbytes d3) rfl ?_
        refine XS.iload Xl.here hexec rfl (hb hbytes d5) rfl ?_
        refine XS.icmpNo Xl.here hexec rfl (hb hbytes d7) rfl (ii_ge_f (lt32 (by omega) (by omega))) ?_
        refine XS.aloadN Xl.here hexec rfl (hb hbytes d10) rfl rfl ?_
        refine XS.iloadN Xl.here hexec rfl (hb hbytes d11) rfl ?_
        exact Steps.refl _)
      have c4 : Steps p.tables e below (s₁.setTop (entryFrame m #[.ref b, .int (Int32.ofNat o), .ref d, .int (Int32.ofNat q), .int (Int32.ofNat len)] 7)) (Tl.setTop (mkF m 13 #[.val (.ref b), .val (.int (Int32.ofNat (o + i))), .val (.ref d), .val (.int (Int32.ofNat (q + i))), .val (.int (Int32.ofNat len)), .val (.int (Int32.ofNat i)), z] [.int (cv A (o + i))])) := c3.trans (by
        refine Xl.aget hexec hAl rfl (hA.get (i := o + i) (by omega)) rfl rfl (hb hbytes d12) ?_
        exact Steps.refl _)
      have c5 : Steps p.tables e below (s₁.setTop (entryFrame m #[.ref b, .int (Int32.ofNat o), .ref d, .int (Int32.ofNat q), .int (Int32.ofNat len)] 7)) (Tl.setTop (mkF m 15 #[.val (.ref b), .val (.int (Int32.ofNat (o + i))), .val (.ref d), .val (.int (Int32.ofNat (q + i))), .val (.int (Int32.ofNat len)), .val (.int (Int32.ofNat i)), .val (.int (cv A (o + i)))] [])) := c4.trans (by
        refine XS.istoreS Xl.here hexec rfl (hb hbytes d13) rfl rfl hz ?_
        exact Steps.refl _)
      have c6 : Steps p.tables e below (s₁.setTop (entryFrame m #[.ref b, .int (Int32.ofNat o), .ref d, .int (Int32.ofNat q), .int (Int32.ofNat len)] 7)) (Tl.setTop (mkF m 31 #[.val (.ref b), .val (.int (Int32.ofNat (o + i))), .val (.ref d), .val (.int (Int32.ofNat (q + i))), .val (.int (Int32.ofNat len)), .val (.int (Int32.ofNat i)), .val (.int (cv A (o + i)))] [.int (lo8 (cv A (o + i))), .int (Int32.ofNat (q + i)), .ref d])) := c5.trans (by
        refine XS.iload Xl.here hexec rfl (hb hbytes d15) rfl ?_
        refine sipushV Xl.here hexec rfl 255 (hb hbytes d17) (by decide) ?_
        refine XS.icmpYes Xl.here hexec rfl (pc0 := 20) rfl (hb hbytes d20) rfl (ii_le_t (hp i (by omega))) (by decide) rfl ?_
        refine XS.aloadN Xl.here hexec rfl (hb hbytes d26) rfl rfl ?_
        refine XS.iloadN Xl.here hexec rfl (hb hbytes d27) rfl ?_
        refine XS.iload Xl.here hexec rfl (hb hbytes d28) rfl ?_
        refine i2b Xl.here hexec rfl (hb hbytes d30) rfl ?_
        exact Steps.refl _)
      obtain ⟨T7, X7, p7, st7⟩ := Xl.aput hexec hBk rfl hlt rfl (fits_lo8 (cv A (o + i))) (g := (mkF m 31 #[.val (.ref b), .val (.int (Int32.ofNat (o + i))), .val (.ref d), .val (.int (Int32.ofNat (q + i))), .val (.int (Int32.ofNat len)), .val (.int (Int32.ofNat i)), .val (.int (cv A (o + i)))] [.int (lo8 (cv A (o + i))), .int (Int32.ofNat (q + i)), .ref d])) rfl (rest := []) rfl (hb hbytes d31)
      have c8 : Steps p.tables e below (s₁.setTop (entryFrame m #[.ref b, .int (Int32.ofNat o), .ref d, .int (Int32.ofNat q), .int (Int32.ofNat len)] 7)) (T7.setTop (mkF m 32 #[.val (.ref b), .val (.int (Int32.ofNat (o + i))), .val (.ref d), .val (.int (Int32.ofNat (q + i))), .val (.int (Int32.ofNat len)), .val (.int (Int32.ofNat i)), .val (.int (cv A (o + i)))] [])) := c6.trans (st7 _ (Steps.refl _))
      have c9 : Steps p.tables e below (s₁.setTop (entryFrame m #[.ref b, .int (Int32.ofNat o), .ref d, .int (Int32.ofNat q), .int (Int32.ofNat len)] 7)) (T7.setTop (mkF m 3 #[.val (.ref b), .val (.int (Int32.ofNat (o + i) + 1)), .val (.ref d), .val (.int (Int32.ofNat (q + i) + 1)), .val (.int (Int32.ofNat len)), .val (.int (Int32.ofNat i + 1)), .val (.int (cv A (o + i)))] [])) := c8.trans (by
        refine iincV X7.here hexec rfl 1 (hb hbytes d32) (by decide) rfl rfl ?_
        refine iincV X7.here hexec rfl 1 (hb hbytes d35) (by decide) rfl rfl ?_
        refine iincV X7.here hexec rfl 1 (hb hbytes d38) (by decide) rfl rfl ?_
        refine XS.goto X7.here hexec rfl (pc0 := 41) rfl (hb hbytes d41) (by decide) rfl ?_
        exact Steps.refl _)
      have c10 : Steps p.tables e below (s₁.setTop (entryFrame m #[.ref b, .int (Int32.ofNat o), .ref d, .int (Int32.ofNat q), .int (Int32.ofNat len)] 7)) (T7.setTop (mkF m 3 #[.val (.ref b), .val (.int (Int32.ofNat (o + (i + 1)))), .val (.ref d), .val (.int (Int32.ofNat (q + (i + 1)))), .val (.int (Int32.ofNat len)), .val (.int (Int32.ofNat (i + 1))), .val (.int (cv A (o + i)))] [])) := by
        have := c9
        rw [succ32, succ32, succ32] at this
        exact this
      exact ih (i + 1) (by omega) _ (Or.inr ⟨_, rfl, rfl⟩) T7 _ (by rw [copyLocs_step, ← List.append_assoc]; exact X7) (pl.trans p7) (fl.step (by omega) hlt (by simp)) c10
  obtain ⟨T9, B9, z9, X9, p9, f9, g9⟩ := loop len 0 (by omega) .unset (Or.inl rfl) s₁ B (by simpa [copyLocs] using X0) ⟨hB0.1, fun _ _ => rfl, rfl⟩ (Laid.zero _ _ _) c2
  have c11 : Steps p.tables e below (s₁.setTop (entryFrame m #[.ref b, .int (Int32.ofNat o), .ref d, .int (Int32.ofNat q), .int (Int32.ofNat len)] 7)) (T9.setTop (mkF m 46 #[.val (.ref b), .val (.int (Int32.ofNat (o + len))), .val (.ref d), .val (.int (Int32.ofNat (q + len))), .val (.int (Int32.ofNat len)), .val (.int (Int32.ofNat len)), z9] [.int (Int32.ofNat len)])) := g9.trans (by
    refine XS.iload X9.here hexec rfl (hb hbytes d3) rfl ?_
    refine XS.iload X9.here hexec rfl (hb hbytes d5) rfl ?_
    refine XS.icmpYes X9.here hexec rfl (pc0 := 7) rfl (hb hbytes d7) rfl (ii_ge_t (nlt32 (by omega) (Nat.le_refl _))) (by decide) rfl ?_
    refine XS.iload X9.here hexec rfl (hb hbytes d44) rfl ?_
    exact Steps.refl _)
  exact ⟨T9, some (.int (Int32.ofNat len)), _, _, _, X9, by simp, rfl, rfl, (fun h => by cases h), ⟨rfl, B9, p9.from hh0, f9⟩, fun fs hl => c11.trans (X9.ireturnOut hexec hret rfl (Or.inl rfl) (hb hbytes d46) hl)⟩
end Cmp5
namespace Cmp3
def yN : MethodName := ⟨"java/lang/StringUTF16", "compress", "([CII)[B"⟩
abbrev yB : ByteArray := jdk_52_method_16_code
theorem d0 : decode yB 0 = .ok (.iload_n 2, 1) := by decide +kernel
theorem d1 : decode yB 1 = .ok (.newarray .byte, 2) := by decide +kernel
theorem d3 : decode yB 3 = .ok (.astore_n 3, 1) := by decide +kernel
theorem d4 : decode yB 4 = .ok (.aload_n 0, 1) := by decide +kernel
theorem d5 : decode yB 5 = .ok (.iload_n 1, 1) := by decide +kernel
theorem d6 : decode yB 6 = .ok (.aload_n 3, 1) := by decide +kernel
theorem d7 : decode yB 7 = .ok (.iconst 0, 1) := by decide +kernel
theorem d8 : decode yB 8 = .ok (.iload_n 2, 1) := by decide +kernel
theorem d9 : decode yB 9 = .ok (.invokestatic 115, 3) := by decide +kernel
theorem d12 : decode yB 12 = .ok (.istore 4, 2) := by decide +kernel
theorem d14 : decode yB 14 = .ok (.iload 4, 2) := by decide +kernel
theorem d16 : decode yB 16 = .ok (.iload_n 2, 1) := by decide +kernel
theorem d17 : decode yB 17 = .ok (.if_icmp (.eq) 40, 3) := by decide +kernel
theorem d57 : decode yB 57 = .ok (.aload_n 3, 1) := by decide +kernel
theorem d58 : decode yB 58 = .ok (.areturn, 1) := by decide +kernel
def site : List Cond := [.arrayClass .byte, Cmp5.tab] ++ staticW U16 115 Cmp5.yN
def tab : Cond := tabOf yN yB 6 (some (.array .byte)) site
def P (b : Addr) (A : Cell) (o len : Nat) (args : Array Value) (s : State) : Prop := args = #[.ref b, .int (Int32.ofNat o), .int (Int32.ofNat len)] ∧ Ch b A s ∧ o + len ≤ A.slots.size ∧ len ≤ 536870912 ∧ ∀ i, i < len → ¬ 255 < cv A (o + i)
def E (b : Addr) (A : Cell) (o len : Nat) (r : Option Value) (s u : State) : Prop := NewArr .byte "[B" len (fun j => .int (lo8 (cv A (o + j)))) r s u ∧ u.heap.size = s.heap.size + 1
/-- no char of the range above 255: a new byte[] of their low bytes -/
theorem law (l : Launch) (b : Addr) (A : Cell) (o len : Nat) : Law l yN 3 3 1 18 yB 6 (some (.array .byte)) site (P b A o len) (E b A o len) [] 1 len := by
  refine Law.of_walk (plainFor_of_name (by decide +kernel)) (by decide +kernel) (by decide +kernel) (by decide) (fun _ _ h => by rw [h.1]; rfl) (fun _ U U' hal hh h => ⟨h.1, h.2.1.mv hal hh, h.2.2⟩) (fun r U U' V V' h1 hal h2 h => ⟨NewArr.mv r U U' V V' h1 hal h2 h.1, by rw [h1, h2]; exact h.2⟩) ?_
  intro p e s m args below meth c s₁ X0 hexec hbytes hml hret hlk hnm hown hh0 W hP
  obtain ⟨rfl, hA, l1, l2, hp⟩ := hP
  have a31 := hA.1.2.2.2
  have c1 : Steps p.tables e below (s₁.setTop (entryFrame m #[.ref b, .int (Int32.ofNat o), .int (Int32.ofNat len)] 6)) (s₁.setTop (mkF m 0 #[.val (.ref b), .val (.int (Int32.ofNat o)), .val (.int (Int32.ofNat len)), .unset, .unset, .unset] [])) := entry rfl
  have c2 : Steps p.tables e below (s₁.setTop (entryFrame m #[.ref b, .int (Int32.ofNat o), .int (Int32.ofNat len)] 6)) (s₁.setTop (mkF m 1 #[.val (.ref b), .val (.int (Int32.ofNat o)), .val (.int (Int32.ofNat len)), .unset, .unset, .unset] [.int (Int32.ofNat len)])) := c1.trans (by
    refine XS.iloadN X0.here hexec rfl (hb hbytes d0) rfl ?_
    exact Steps.refl _)
  obtain ⟨T3, B3, X3, ba3, bs3, bv3, bh3, bf3, st3⟩ := X0.anew hexec (atype := .byte) (wk W (.arrayClass .byte)) rfl (by show len * 1 ≤ _; omega) (by omega) (g := (mkF m 1 #[.val (.ref b), .val (.int (Int32.ofNat o)), .val (.int (Int32.ofNat len)), .unset, .unset, .unset] [.int (Int32.ofNat len)])) rfl (hb hbytes d1) (rest := []) rfl (Nat.le_refl _) (by show 0 + len ≤ len; omega)
  rw [hh0] at ba3 st3
  have kp3 : XT.Kept s T3 := (XT.Kept.of_eq hh0).push bh3
  have hA3 := hA.keep X3.warmed.alike (kp3 _ _ hA.1.1)
  have hne : b ≠ s.heap.size := hA.1.ne
  have c4 : Steps p.tables e below (s₁.setTop (entryFrame m #[.ref b, .int (Int32.ofNat o), .int (Int32.ofNat len)] 6)) (T3.setTop (mkF m 3 #[.val (.ref b), .val (.int (Int32.ofNat o)), .val (.int (Int32.ofNat len)), .unset, .unset, .unset] [.ref s.heap.size])) := c2.trans (st3 _ (Steps.refl _))
  have c5 : Steps p.tables e below (s₁.setTop (entryFrame m #[.ref b, .int (Int32.ofNat o), .int (Int32.ofNat len)] 6)) (T3.setTop (mkF m 9 #[.val (.ref b), .val (.int (Int32.ofNat o)), .val (.int (Int32.ofNat len)), .val (.ref s.heap.size), .unset, .unset] [.int (Int32.ofNat len), .int 0, .ref s.heap.size, .int (Int32.ofNat o), .ref b])) := c4.trans (by
    refine XS.astoreN X3.here hexec rfl (hb hbytes d3) rfl rfl rfl ?_
    refine XS.aloadN X3.here hexec rfl (hb hbytes d4) rfl rfl ?_
    refine XS.iloadN X3.here hexec rfl (hb hbytes d5) rfl ?_
    refine XS.aloadN X3.here hexec rfl (hb hbytes d6) rfl rfl ?_
    refine iconstV X3.here hexec rfl 0 (hb hbytes d7) (by decide) ?_
    refine XS.iloadN X3.here hexec rfl (hb hbytes d8) rfl ?_
    exact Steps.refl _)
  obtain ⟨v6, T6, X6, E6, g6⟩ := X3.callS hexec (Cmp5.law l b A s.heap.size B3 o 0 len) hown (wks W (staticW U16 115 Cmp5.yN)) (wk W Cmp5.tab) (W := 0) (Nat.le_of_ble_eq_true rfl) (Nat.le_of_ble_eq_true rfl) (Nat.le_refl _) (by show 0 + len + 0 ≤ len; omega) (g := (mkF m 9 #[.val (.ref b), .val (.int (Int32.ofNat o)), .val (.int (Int32.ofNat len)), .val (.ref s.heap.size), .unset, .unset] [.int (Int32.ofNat len), .int (Int32.ofNat 0), .ref s.heap.size, .int (Int32.ofNat o), .ref b])) rfl (by rw [hml]; rfl) c5 (argsL := [.ref b, .int (Int32.ofNat o), .ref s.heap.size, .int (Int32.ofNat 0), .int (Int32.ofNat len)]) (rest := []) rfl rfl (by show 2 * 0 + 0 ≤ _; decide) (hb hbytes d9) (⟨rfl, hA3, ba3, hne, l1, by rw [bs3]; simp, hp⟩)
  obtain ⟨rfl, B6, p6, f6⟩ := E6
  have c7 : Steps p.tables e below (s₁.setTop (entryFrame m #[.ref b, .int (Int32.ofNat o), .int (Int32.ofNat len)] 6)) (T6.setTop (mkF m 12 #[.val (.ref b), .val (.int (Int32.ofNat o)), .val (.int (Int32.ofNat len)), .val (.ref s.heap.size), .unset, .unset] [.int (Int32.ofNat len)])) := g6
  have c8 : Steps p.tables e below (s₁.setTop (entryFrame m #[.ref b, .int (Int32.ofNat o), .int (Int32.ofNat len)] 6)) (T6.setTop (mkF m 58 #[.val (.ref b), .val (.int (Int32.ofNat o)), .val (.int (Int32.ofNat len)), .val (.ref s.heap.size), .val (.int (Int32.ofNat len)), .unset] [.ref s.heap.size])) := c7.trans (by
    refine XS.istore X6.here hexec rfl (hb hbytes d12) rfl rfl ?_
    refine XS.iload X6.here hexec rfl (hb hbytes d14) rfl ?_
    refine XS.iloadN X6.here hexec rfl (hb hbytes d16) rfl ?_
    refine XS.icmpYes X6.here hexec rfl (pc0 := 17) rfl (hb hbytes d17) rfl (ii_eq_t rfl) (by decide) rfl ?_
    refine XS.aloadN X6.here hexec rfl (hb hbytes d57) rfl rfl ?_
    exact Steps.refl _)
  have X8 := X6.wide (L' := []) (cells' := 1) (slots' := len) (fun x hx hlt => by
    simp only [List.nil_append, copyLocs, List.mem_map, List.mem_range] at hx
    obtain ⟨i, -, rfl⟩ := hx
    exact absurd hlt (Nat.lt_irrefl _)) (Nat.le_refl _) (by omega)
  exact ⟨T6, some (.ref s.heap.size), _, _, _, X8, rfl, rfl, rfl, (fun h => by cases h), ⟨⟨rfl, B6, ba3.like (X3.warmed.alike.symm.trans X6.warmed.alike) p6.1 f6.1 f6.2.1 f6.2.2.1, f6.2.1.trans bv3, by rw [X6.warmed.alike.findClass, f6.1]; exact bf3, by rw [f6.2.2.1, bs3]; simp, fun j hj => by rw [f6.2.2.2 j, if_pos (by omega)]; rfl, kp3.put p6 (Nat.le_refl _)⟩, by rw [p6.2.2, bh3, hh0]; simp⟩, fun fs hl => c8.trans (X8.areturnOut hexec rfl hret rfl (hb hbytes d58) hl)⟩
end Cmp3
namespace CodL
def yN : MethodName := ⟨"java/lang/StringUTF16", "coderFromArrayLen", "([BI)B"⟩
abbrev yB : ByteArray := jdk_52_method_15_code
theorem d0 : decode yB 0 = .ok (.iload_n 1, 1) := by decide +kernel
theorem d1 : decode yB 1 = .ok (.aload_n 0, 1) := by decide +kernel
theorem d2 : decode yB 2 = .ok (.arraylength, 1) := by decide +kernel
theorem d3 : decode yB 3 = .ok (.isub, 1) := by decide +kernel
theorem d4 : decode yB 4 = .ok (.bipush 31, 2) := by decide +kernel
theorem d6 : decode yB 6 = .ok (.iushr, 1) := by decide +kernel
theorem d7 : decode yB 7 = .ok (.i2b, 1) := by decide +kernel
theorem d8 : decode yB 8 = .ok (.ireturn, 1) := by decide +kernel
def site : List Cond := []
def tab : Cond := tabOf yN yB 2 (some .byte) site
def P (d : Addr) (B : Cell) (args : Array Value) (s : State) : Prop := args = #[.ref d, .int (Int32.ofNat B.slots.size)] ∧ Arr .byte d B s
def E (r : Option Value) (s u : State) : Prop := XT.PureE (some (.int 0)) r s u
/-- an array as long as the number of chars: LATIN1 -/
theorem law (l : Launch) (d : Addr) (B : Cell) : Law l yN 2 2 0 0 yB 2 (some .byte) site (P d B) E [] 0 0 := by
  refine Law.of_walk (plainFor_of_name (by decide +kernel)) (by decide +kernel) (by decide +kernel) (by decide) (fun _ _ h => by rw [h.1]; rfl) (fun _ U U' hal hh h => ⟨h.1, h.2.mv hal hh⟩) (fun r U U' V V' h1 hal h2 h => XT.PureE.mv r U U' V V' h1 hal h2 h) ?_
  intro p e s m args below meth c s₁ X0 hexec hbytes hml hret hlk hnm hown hh0 W hP
  obtain ⟨rfl, hB⟩ := hP
  have hB0 := hB.mv X0.warmed.alike hh0
  have c1 : Steps p.tables e below (s₁.setTop (entryFrame m #[.ref d, .int (Int32.ofNat B.slots.size)] 2)) (s₁.setTop (mkF m 0 #[.val (.ref d), .val (.int (Int32.ofNat B.slots.size))] [])) := entry rfl
  have c2 : Steps p.tables e below (s₁.setTop (entryFrame m #[.ref d, .int (Int32.ofNat B.slots.size)] 2)) (s₁.setTop (mkF m 2 #[.val (.ref d), .val (.int (Int32.ofNat B.slots.size))] [.ref d, .int (Int32.ofNat B.slots.size)])) := c1.trans (by
    refine XS.iloadN X0.here hexec rfl (hb hbytes d0) rfl ?_
    refine XS.aloadN X0.here hexec rfl (hb hbytes d1) rfl rfl ?_
    exact Steps.refl _)
  have c3 : Steps p.tables e below (s₁.setTop (entryFrame m #[.ref d, .int (Int32.ofNat B.slots.size)] 2)) (s₁.setTop (mkF m 8 #[.val (.ref d), .val (.int (Int32.ofNat B.slots.size))] [.int (lo8 (ushr (Int32.ofNat B.slots.size - Int32.ofNat B.slots.size) 31))])) := c2.trans (by
    refine X0.alen hexec hB0 rfl rfl (hb hbytes d2) ?_
    refine XS.isub X0.here hexec rfl (hb hbytes d3) rfl ?_
    refine bipushV X0.here hexec rfl 31 (hb hbytes d4) (by decide) ?_
    refine iushr X0.here hexec rfl (hb hbytes d6) rfl ?_
    refine i2b X0.here hexec rfl (hb hbytes d7) rfl ?_
    exact Steps.refl _)
  have e0 : lo8 (ushr (Int32.ofNat B.slots.size - Int32.ofNat B.slots.size) 31) = 0 := by rw [Int32.sub_self]; decide
  rw [e0] at c3
  exact ⟨s₁, some (.int 0), _, _, _, X0, rfl, rfl, rfl, (fun h => by cases h), ⟨rfl, hh0⟩, fun fs hl => c3.trans (X0.ireturnOut hexec hret rfl (Or.inr (Or.inr (Or.inl rfl))) (hb hbytes d8) hl)⟩
end CodL
/-- the String at a is Latin-1 over a new byte[] (the heap's one new cell): the low bytes of the len chars of A from o on; every cell but a is kept -/
def Got (a : Addr) (D : Cell) (fV fC : Field) (A : Cell) (o len : Nat) (r : Option Value) (s u : State) : Prop := r = none ∧ ∃ D' V : Cell, Blank "java/lang/String" a D' u ∧ Same D D' [fV.slot, fC.slot] ∧ D'.slots[fV.slot]? = some (.ref s.heap.size) ∧ D'.slots[fC.slot]? = some (.int 0) ∧ Arr .byte s.heap.size V u ∧ V.vm = .none ∧ u.vm.findClass "[B" = some V.cls ∧ V.slots.size = len ∧ (∀ j, j < len → V.slots[j]? = some (.int (lo8 (cv A (o + j))))) ∧ (∀ (y : Addr) (c : Cell), y ≠ a → s.heap[y]? = some c → u.heap[y]? = some c) ∧ u.heap.size = s.heap.size + 1
theorem Got.mv {a : Addr} {D A : Cell} {fV fC : Field} {o len : Nat} : ∀ r (U U' V V' : State), U'.heap = U.heap → V.vm.Alike V'.vm → V'.heap = V.heap → Got a D fV fC A o len r U V → Got a D fV fC A o len r U' V' :=
  fun r U U' V V' h1 hal h2 ⟨e0, D', X, a1, a2, a3, a4, a5, a6, a7, a8, a9, a10, a11⟩ => ⟨e0, D', X, a1.mv hal h2, a2, by rw [h1]; exact a3, a4, by rw [h1]; exact a5.mv hal h2, a6, by rw [hal.findClass]; exact a7, a8, a9, by rw [h1, h2]; exact a10, by rw [h1, h2]; exact a11⟩
namespace New4
def yN : MethodName := ⟨"java/lang/String", "<init>", "([CIILjava/lang/Void;)V"⟩
abbrev yB : ByteArray := jdk_42_method_149_code
theorem d0 : decode yB 0 = .ok (.aload_n 0, 1) := by decide +kernel
theorem d1 : decode yB 1 = .ok (.invokespecial 1, 3) := by decide +kernel
theorem d4 : decode yB 4 = .ok (.iload_n 3, 1) := by decide +kernel
theorem d5 : decode yB 5 = .ok (.ifCond (.ne) 22, 3) := by decide +kernel
theorem d27 : decode yB 27 = .ok (.getstatic 38, 3) := by decide +kernel
theorem d30 : decode yB 30 = .ok (.ifCond (.eq) 28, 3) := by decide +kernel
theorem d33 : decode yB 33 = .ok (.aload_n 1, 1) := by decide +kernel
theorem d34 : decode yB 34 = .ok (.iload_n 2, 1) := by decide +kernel
theorem d35 : decode yB 35 = .ok (.iload_n 3, 1) := by decide +kernel
theorem d36 : decode yB 36 = .ok (.invokestatic 177, 3) := by decide +kernel
theorem d39 : decode yB 39 = .ok (.astore 5, 2) := by decide +kernel
theorem d41 : decode yB 41 = .ok (.aload_n 0, 1) := by decide +kernel
theorem d42 : decode yB 42 = .ok (.aload 5, 2) := by decide +kernel
theorem d44 : decode yB 44 = .ok (.iload_n 3, 1) := by decide +kernel
theorem d45 : decode yB 45 = .ok (.invokestatic 47, 3) := by decide +kernel
theorem d48 : decode yB 48 = .ok (.putfield 15, 3) := by decide +kernel
theorem d51 : decode yB 51 = .ok (.aload_n 0, 1) := by decide +kernel
theorem d52 : decode yB 52 = .ok (.aload 5, 2) := by decide +kernel
theorem d54 : decode yB 54 = .ok (.putfield 9, 3) := by decide +kernel
theorem d57 : decode yB 57 = .ok (.return_, 1) := by decide +kernel
def site : List Cond := [.fieldLink "java/lang/String" 38 "java/lang/String" "COMPACT_STRINGS" "Z", Cmp3.tab, CodL.tab, .laysFinal "java/lang/String" "java/lang/String" "value" "[B", .fieldLink "java/lang/String" 9 "java/lang/String" "value" "[B", .laysFinal "java/lang/String" "java/lang/String" "coder" "B", .fieldLink "java/lang/String" 15 "java/lang/String" "coder" "B"] ++ objW "java/lang/String" 1 ++ staticW "java/lang/String" 177 Cmp3.yN ++ staticW "java/lang/String" 47 CodL.yN
def tab : Cond := tabOf yN yB 6 none site
def P (a : Addr) (D : Cell) (fV fC : Field) (b : Addr) (A : Cell) (z : Int32) (o len : Nat) (args : Array Value) (s : State) : Prop := args = #[.ref a, .ref b, .int (Int32.ofNat o), .int (Int32.ofNat len), .null] ∧ Blank "java/lang/String" a D s ∧ Found "java/lang/String" "value" "[B" fV s ∧ Found "java/lang/String" "coder" "B" fC s ∧ Ch b A s ∧ StaticIs s "java/lang/String" "COMPACT_STRINGS" "Z" (.int z) ∧ ¬ z = 0 ∧ 0 < len ∧ o + len ≤ A.slots.size ∧ len ≤ 536870912 ∧ ∀ i, i < len → ¬ 255 < cv A (o + i)
def E (a : Addr) (D : Cell) (fV fC : Field) (A : Cell) (o len : Nat) (r : Option Value) (s u : State) : Prop := Got a D fV fC A o len r s u
/-- len > 0, no char of the range above 255: a Latin-1 String of their low bytes -/
theorem law (l : Launch) (a : Addr) (D : Cell) (fV fC : Field) (b : Addr) (A : Cell) (z : Int32) (o len : Nat) : Law l yN 5 4 2 35 yB 6 none site (P a D fV fC b A z o len) (E a D fV fC A o len) [⟨a, fC.slot⟩, ⟨a, fV.slot⟩] 1 len := by
  refine Law.of_walk (plainFor_of_name (by decide +kernel)) (by decide +kernel) (by decide +kernel) (by decide) (fun _ _ h => by rw [h.1]; rfl) (fun _ U U' hal hh h => ⟨h.1, h.2.1.mv hal hh, h.2.2.1.al hal, h.2.2.2.1.al hal, h.2.2.2.2.1.mv hal hh, h.2.2.2.2.2.1.there hal hh, h.2.2.2.2.2.2⟩) (fun r U U' V V' h1 hal h2 h => Got.mv r U U' V V' h1 hal h2 h) ?_
  intro p e s m args below meth c s₁ X0 hexec hbytes hml hret hlk hnm hown hh0 W hP
  obtain ⟨rfl, hB, f1, f2, hA, s1, hz, l0, l1, l2, hp⟩ := hP
  have a31 := hA.1.2.2.2
  have c1 : Steps p.tables e below (s₁.setTop (entryFrame m #[.ref a, .ref b, .int (Int32.ofNat o), .int (Int32.ofNat len), .null] 6)) (s₁.setTop (mkF m 0 #[.val (.ref a), .val (.ref b), .val (.int (Int32.ofNat o)), .val (.int (Int32.ofNat len)), .val .null, .unset] [])) := entry rfl
  have c2 : Steps p.tables e below (s₁.setTop (entryFrame m #[.ref a, .ref b, .int (Int32.ofNat o), .int (Int32.ofNat len), .null] 6)) (s₁.setTop (mkF m 1 #[.val (.ref a), .val (.ref b), .val (.int (Int32.ofNat o)), .val (.int (Int32.ofNat len)), .val .null, .unset] [.ref a])) := c1.trans (by
    refine XS.aloadN X0.here hexec rfl (hb hbytes d0) rfl rfl ?_
    exact Steps.refl _)
  obtain ⟨T3, X3, q3, st3⟩ := X0.oinit hexec hown (wks W (objW "java/lang/String" 1)) (g := (mkF m 1 #[.val (.ref a), .val (.ref b), .val (.int (Int32.ofNat o)), .val (.int (Int32.ofNat len)), .val .null, .unset] [.ref a])) rfl (by rw [hml]; rfl) (rest := []) rfl (hb hbytes d1) (W := 0) (by show 2 * 0 + 0 ≤ _; decide) (Nat.le_of_ble_eq_true rfl) (Nat.le_of_ble_eq_true rfl)
  have hh3 := q3.trans hh0
  have c4 : Steps p.tables e below (s₁.setTop (entryFrame m #[.ref a, .ref b, .int (Int32.ofNat o), .int (Int32.ofNat len), .null] 6)) (T3.setTop (mkF m 27 #[.val (.ref a), .val (.ref b), .val (.int (Int32.ofNat o)), .val (.int (Int32.ofNat len)), .val .null, .unset] [])) := (c2.trans (st3 _ (Steps.refl _))).trans (by
    refine XS.iloadN X3.here hexec rfl (hb hbytes d4) rfl ?_
    refine XS.ifYes X3.here hexec rfl (pc0 := 5) rfl (hb hbytes d5) rfl (i0_ne_t (nz32 (by omega) l0)) (by decide) rfl ?_
    exact Steps.refl _)
  obtain ⟨T5, X5, q5, st5⟩ := X3.sget hexec hown (wk W (.fieldLink "java/lang/String" 38 "java/lang/String" "COMPACT_STRINGS" "Z")) s1 (fun _ _ h => by rw [hh3]; exact h) (g := (mkF m 27 #[.val (.ref a), .val (.ref b), .val (.int (Int32.ofNat o)), .val (.int (Int32.ofNat len)), .val .null, .unset] [])) rfl (hb hbytes d27)
  have hh5 := q5.trans hh3
  have c6 : Steps p.tables e below (s₁.setTop (entryFrame m #[.ref a, .ref b, .int (Int32.ofNat o), .int (Int32.ofNat len), .null] 6)) (T5.setTop (mkF m 30 #[.val (.ref a), .val (.ref b), .val (.int (Int32.ofNat o)), .val (.int (Int32.ofNat len)), .val .null, .unset] [.int z])) := c4.trans (st5 _ (Steps.refl _))
  have c7 : Steps p.tables e below (s₁.setTop (entryFrame m #[.ref a, .ref b, .int (Int32.ofNat o), .int (Int32.ofNat len), .null] 6)) (T5.setTop (mkF m 36 #[.val (.ref a), .val (.ref b), .val (.int (Int32.ofNat o)), .val (.int (Int32.ofNat len)), .val .null, .unset] [.int (Int32.ofNat len), .int (Int32.ofNat o), .ref b])) := c6.trans (by
    refine XS.ifNo X5.here hexec rfl (hb hbytes d30) rfl (i0_eq_f hz) ?_
    refine XS.aloadN X5.here hexec rfl (hb hbytes d33) rfl rfl ?_
    refine XS.iloadN X5.here hexec rfl (hb hbytes d34) rfl ?_
    refine XS.iloadN X5.here hexec rfl (hb hbytes d35) rfl ?_
    exact Steps.refl _)
  obtain ⟨v8, T8, X8, E8, g8⟩ := X5.callS hexec (Cmp3.law l b A o len) hown (wks W (staticW "java/lang/String" 177 Cmp3.yN)) (wk W Cmp3.tab) (W := 0) (Nat.le_of_ble_eq_true rfl) (Nat.le_of_ble_eq_true rfl) (Nat.le_refl _) (by show 0 + len ≤ len; omega) (g := (mkF m 36 #[.val (.ref a), .val (.ref b), .val (.int (Int32.ofNat o)), .val (.int (Int32.ofNat len)), .val .null, .unset] [.int (Int32.ofNat len), .int (Int32.ofNat o), .ref b])) rfl (by rw [hml]; rfl) c7 (argsL := [.ref b, .int (Int32.ofNat o), .int (Int32.ofNat len)]) (rest := []) rfl rfl (by show 2 * 0 + 0 ≤ _; decide) (hb hbytes d36) (⟨rfl, hA.mv X5.warmed.alike hh5, l1, l2, hp⟩)
  obtain ⟨e8, z8⟩ := E8
  obtain ⟨rfl, N, n1, n2, n3, n4, n5, n6⟩ := NewArr.mv _ T5 s _ _ hh5.symm (Vm.Alike.refl _) rfl e8
  rw [hh5] at z8
  have hB1 := hB.keep X8.warmed.alike (n6 _ _ hB.1)
  have hne : s.heap.size ≠ a := (Nat.ne_of_lt (Array.getElem?_eq_some_iff.mp hB.1).1).symm
  have c9 : Steps p.tables e below (s₁.setTop (entryFrame m #[.ref a, .ref b, .int (Int32.ofNat o), .int (Int32.ofNat len), .null] 6)) (T8.setTop (mkF m 39 #[.val (.ref a), .val (.ref b), .val (.int (Int32.ofNat o)), .val (.int (Int32.ofNat len)), .val .null, .unset] [.ref s.heap.size])) := g8
  have c10 : Steps p.tables e below (s₁.setTop (entryFrame m #[.ref a, .ref b, .int (Int32.ofNat o), .int (Int32.ofNat len), .null] 6)) (T8.setTop (mkF m 45 #[.val (.ref a), .val (.ref b), .val (.int (Int32.ofNat o)), .val (.int (Int32.ofNat len)), .val .null, .val (.ref s.heap.size)] [.int (Int32.ofNat N.slots.size), .ref s.heap.size, .ref a])) := by
    have hc : Steps p.tables e below (s₁.setTop (entryFrame m #[.ref a, .ref b, .int (Int32.ofNat o), .int (Int32.ofNat len), .null] 6)) (T8.setTop (mkF m 45 #[.val (.ref a), .val (.ref b), .val (.int (Int32.ofNat o)), .val (.int (Int32.ofNat len)), .val .null, .val (.ref s.heap.size)] [.int (Int32.ofNat len), .ref s.heap.size, .ref a])) := c9.trans (by
      refine XS.astore X8.here hexec rfl (hb hbytes d39) rfl rfl rfl ?_
      refine XS.aloadN X8.here hexec rfl (hb hbytes d41) rfl rfl ?_
      refine XS.aload X8.here hexec rfl (hb hbytes d42) rfl rfl ?_
      refine XS.iloadN X8.here hexec rfl (hb hbytes d44) rfl ?_
      exact Steps.refl _)
    rw [n4]; exact hc
  obtain ⟨v11, T11, X11, E11, g11⟩ := X8.callS hexec (CodL.law l s.heap.size N) hown (wks W (staticW "java/lang/String" 47 CodL.yN)) (wk W CodL.tab) (W := 1) (Nat.le_of_ble_eq_true rfl) (Nat.le_of_ble_eq_true rfl) (Nat.le_refl _) (by show 0 + len + 0 ≤ len; omega) (g := (mkF m 45 #[.val (.ref a), .val (.ref b), .val (.int (Int32.ofNat o)), .val (.int (Int32.ofNat len)), .val .null, .val (.ref s.heap.size)] [.int (Int32.ofNat N.slots.size), .ref s.heap.size, .ref a])) rfl (by rw [hml]; rfl) c10 (argsL := [.ref s.heap.size, .int (Int32.ofNat N.slots.size)]) (rest := [.ref a]) rfl rfl (by show 2 * 0 + (1 + 0) ≤ _; decide) (hb hbytes d45) (⟨rfl, n1⟩)
  obtain ⟨rfl, q11⟩ := E11
  have hB11 := hB1.mv (X8.warmed.alike.symm.trans X11.warmed.alike) q11
  have c12 : Steps p.tables e below (s₁.setTop (entryFrame m #[.ref a, .ref b, .int (Int32.ofNat o), .int (Int32.ofNat len), .null] 6)) (T11.setTop (mkF m 48 #[.val (.ref a), .val (.ref b), .val (.int (Int32.ofNat o)), .val (.int (Int32.ofNat len)), .val .null, .val (.ref s.heap.size)] [.int 0, .ref a])) := g11
  obtain ⟨T13, X13, p13, bl13, sl13, st13⟩ := X11.finit hexec hown (wk W (.fieldLink "java/lang/String" 15 "java/lang/String" "coder" "B")) (Or.inr ⟨_, (wk W (.laysFinal "java/lang/String" "java/lang/String" "coder" "B"))⟩) (Or.inl ⟨rfl, hnm⟩) f2 (Or.inl rfl) hB11 (t := .byte) (by decide +kernel) rfl (g := (mkF m 48 #[.val (.ref a), .val (.ref b), .val (.int (Int32.ofNat o)), .val (.int (Int32.ofNat len)), .val .null, .val (.ref s.heap.size)] [.int 0, .ref a])) rfl (rest := []) rfl (hb hbytes d48)
  have c14 : Steps p.tables e below (s₁.setTop (entryFrame m #[.ref a, .ref b, .int (Int32.ofNat o), .int (Int32.ofNat len), .null] 6)) (T13.setTop (mkF m 54 #[.val (.ref a), .val (.ref b), .val (.int (Int32.ofNat o)), .val (.int (Int32.ofNat len)), .val .null, .val (.ref s.heap.size)] [.ref s.heap.size, .ref a])) := (c12.trans (st13 _ (Steps.refl _))).trans (by
    refine XS.aloadN X13.here hexec rfl (hb hbytes d51) rfl rfl ?_
    refine XS.aload X13.here hexec rfl (hb hbytes d52) rfl rfl ?_
    exact Steps.refl _)
  obtain ⟨T15, X15, p15, bl15, sl15, st15⟩ := X13.finit hexec hown (wk W (.fieldLink "java/lang/String" 9 "java/lang/String" "value" "[B")) (Or.inr ⟨_, (wk W (.laysFinal "java/lang/String" "java/lang/String" "value" "[B"))⟩) (Or.inl ⟨rfl, hnm⟩) f1 (Or.inl rfl) bl13 (t := (.array .byte)) (by decide +kernel) rfl (g := (mkF m 54 #[.val (.ref a), .val (.ref b), .val (.int (Int32.ofNat o)), .val (.int (Int32.ofNat len)), .val .null, .val (.ref s.heap.size)] [.ref s.heap.size, .ref a])) rfl (rest := []) rfl (hb hbytes d54)
  have c16 : Steps p.tables e below (s₁.setTop (entryFrame m #[.ref a, .ref b, .int (Int32.ofNat o), .int (Int32.ofNat len), .null] 6)) (T15.setTop (mkF m 57 #[.val (.ref a), .val (.ref b), .val (.int (Int32.ofNat o)), .val (.int (Int32.ofNat len)), .val .null, .val (.ref s.heap.size)] [])) := c14.trans (st15 _ (Steps.refl _))
  have ap := apart (Or.inr ⟨_, (wk W (.laysFinal "java/lang/String" "java/lang/String" "value" "[B"))⟩) (Or.inr ⟨_, (wk W (.laysFinal "java/lang/String" "java/lang/String" "coder" "B"))⟩) f1 f2 (t₁ := .array .byte) (t₂ := .byte) (by decide +kernel) (by decide +kernel) (by decide)
  have al := X8.warmed.alike.symm.trans X15.warmed.alike
  have n7 : T11.heap[s.heap.size]? = some N := by rw [q11]; exact n1.1
  exact ⟨T15, none, _, _, _, X15, by simp, rfl, by omega, (fun _ => rfl), ⟨rfl, _, N, bl15, ((Same.refl D _).set _ (by simp)).set _ (by simp), sl15, (Cell.slots_setSlot_ne _ ap).trans sl13, n1.keep al (p15.other hne (p13.other hne n7)), n2, by rw [al.findClass]; exact n3, n4, n5, fun y c h1 h2 => p15.other h1 (p13.other h1 (by rw [q11]; exact n6 y c h2)), by rw [p15.2.2, p13.2.2, q11]; exact z8⟩, fun fs hl => c16.trans (X15.returnOut hexec hret (hb hbytes d57) hl)⟩
end New4
namespace New1
def yN : MethodName := ⟨"java/lang/String", "<init>", "([C)V"⟩
abbrev yB : ByteArray := jdk_42_method_3_code
theorem d0 : decode yB 0 = .ok (.aload_n 0, 1) := by decide +kernel
theorem d1 : decode yB 1 = .ok (.aload_n 1, 1) := by decide +kernel
theorem d2 : decode yB 2 = .ok (.iconst 0, 1) := by decide +kernel
theorem d3 : decode yB 3 = .ok (.aload_n 1, 1) := by decide +kernel
theorem d4 : decode yB 4 = .ok (.arraylength, 1) := by decide +kernel
theorem d5 : decode yB 5 = .ok (.aconst_null, 1) := by decide +kernel
theorem d6 : decode yB 6 = .ok (.invokespecial 27, 3) := by decide +kernel
theorem d9 : decode yB 9 = .ok (.return_, 1) := by decide +kernel
def site : List Cond := [New4.tab] ++ initW "java/lang/String" 27 New4.yN
def tab : Cond := tabOf yN yB 2 none site
def P (a : Addr) (D : Cell) (fV fC : Field) (b : Addr) (A : Cell) (z : Int32) (args : Array Value) (s : State) : Prop := args = #[.ref a, .ref b] ∧ Blank "java/lang/String" a D s ∧ Found "java/lang/String" "value" "[B" fV s ∧ Found "java/lang/String" "coder" "B" fC s ∧ Ch b A s ∧ StaticIs s "java/lang/String" "COMPACT_STRINGS" "Z" (.int z) ∧ ¬ z = 0 ∧ 0 < A.slots.size ∧ A.slots.size ≤ 536870912 ∧ ∀ i, i < A.slots.size → ¬ 255 < cv A i
def E (a : Addr) (D : Cell) (fV fC : Field) (A : Cell) (r : Option Value) (s u : State) : Prop := Got a D fV fC A 0 A.slots.size r s u
/-- new String(chars), not empty, no char above 255: a Latin-1 String of their low bytes -/
theorem law (l : Launch) (a : Addr) (D : Cell) (fV fC : Field) (b : Addr) (A : Cell) (z : Int32) : Law l yN 2 1 3 52 yB 2 none site (P a D fV fC b A z) (E a D fV fC A) [⟨a, fC.slot⟩, ⟨a, fV.slot⟩] 1 A.slots.size := by
  refine Law.of_walk (plainFor_of_name (by decide +kernel)) (by decide +kernel) (by decide +kernel) (by decide) (fun _ _ h => by rw [h.1]; rfl) (fun _ U U' hal hh h => ⟨h.1, h.2.1.mv hal hh, h.2.2.1.al hal, h.2.2.2.1.al hal, h.2.2.2.2.1.mv hal hh, h.2.2.2.2.2.1.there hal hh, h.2.2.2.2.2.2⟩) (fun r U U' V V' h1 hal h2 h => Got.mv r U U' V V' h1 hal h2 h) ?_
  intro p e s m args below meth c s₁ X0 hexec hbytes hml hret hlk hnm hown hh0 W hP
  obtain ⟨rfl, hB, f1, f2, hA, s1, hz, l0, l2, hp⟩ := hP
  have c1 : Steps p.tables e below (s₁.setTop (entryFrame m #[.ref a, .ref b] 2)) (s₁.setTop (mkF m 0 #[.val (.ref a), .val (.ref b)] [])) := entry rfl
  have c2 : Steps p.tables e below (s₁.setTop (entryFrame m #[.ref a, .ref b] 2)) (s₁.setTop (mkF m 6 #[.val (.ref a), .val (.ref b)] [.null, .int (Int32.ofNat A.slots.size), .int 0, .ref b, .ref a])) := c1.trans (by
    refine XS.aloadN X0.here hexec rfl (hb hbytes d0) rfl rfl ?_
    refine XS.aloadN X0.here hexec rfl (hb hbytes d1) rfl rfl ?_
    refine iconstV X0.here hexec rfl 0 (hb hbytes d2) (by decide) ?_
    refine XS.aloadN X0.here hexec rfl (hb hbytes d3) rfl rfl ?_
    refine X0.alen hexec (hA.1.mv X0.warmed.alike hh0) rfl rfl (hb hbytes d4) ?_
    refine XS.aconstNull X0.here hexec rfl (hb hbytes d5) ?_
    exact Steps.refl _)
  obtain ⟨v3, T3, X3, E3, g3⟩ := X0.callN hexec (New4.law l a D fV fC b A z 0 A.slots.size) rfl hown (wks W (initW "java/lang/String" 27 New4.yN)) (W New4.tab (by simp only [site, List.mem_cons, List.mem_append, true_or, or_true])) (W := 0) (Nat.le_of_ble_eq_true rfl) (Nat.le_of_ble_eq_true rfl) (Nat.le_refl _) (by show 0 + A.slots.size ≤ A.slots.size; omega) (g := (mkF m 6 #[.val (.ref a), .val (.ref b)] [.null, .int (Int32.ofNat A.slots.size), .int (Int32.ofNat 0), .ref b, .ref a])) rfl (by rw [hml]; rfl) c2 (argsL := [.ref b, .int (Int32.ofNat 0), .int (Int32.ofNat A.slots.size), .null]) (rest := []) rfl rfl (by show 2 * 0 + 0 ≤ _; decide) (hb hbytes d6) (⟨rfl, hB.mv X0.warmed.alike hh0, f1.al X0.warmed.alike, f2.al X0.warmed.alike, hA.mv X0.warmed.alike hh0, s1.there X0.warmed.alike hh0, hz, l0, by omega, l2, fun i hi => by rw [Nat.zero_add]; exact hp i hi⟩)
  have e0 := Got.mv _ s₁ s _ _ hh0.symm (Vm.Alike.refl _) rfl E3
  obtain rfl := e0.1
  have c4 : Steps p.tables e below (s₁.setTop (entryFrame m #[.ref a, .ref b] 2)) (T3.setTop (mkF m 9 #[.val (.ref a), .val (.ref b)] [])) := g3
  exact ⟨T3, none, _, _, _, X3, by simp, rfl, by omega, (fun _ => rfl), e0, fun fs hl => c4.trans (X3.returnOut hexec hret (hb hbytes d9) hl)⟩
theorem pays {l : Launch} {R : Room} {p : Program} {e : Env} {below : List Frame} {s : State} {sargs : Array Value} {len W : Nat} (a : Addr) (D : Cell) (fV fC : Field) (b : Addr) (A : Cell) (z : Int32) (htab : tab.before sargs s = true) (hfr : 4 ≤ R.frames) (hlo : W + 65 ≤ R.locals) :
    Back l R p e below s sargs yN len W (fun A₁ a₁ => A₁.cells + 1 ≤ R.cells ∧ A₁.slots + A.slots.size ≤ R.slots ∧ P a D fV fC b A z a₁ A₁.U) (fun A₁ _ v₁ B₁ => E a D fV fC A v₁ A₁.U B₁.U ∧ B₁.locs = A₁.locs ++ [⟨a, fC.slot⟩, ⟨a, fV.slot⟩] ∧ B₁.cells = A₁.cells + 1 ∧ B₁.slots = A₁.slots + A.slots.size) :=
  (law l a D fV fC b A z).pays htab hfr (by omega)
end New1
/-- the byte, read back as charAt reads it, is the char -/
theorem lo8_mask {x : Int32} (h0 : ¬ x < 0) (h1 : ¬ 255 < x) : lo8 x &&& 255 = x := by
  have t : ∀ k : Fin 256, lo8 (Int32.ofNat k.val) &&& 255 = Int32.ofNat k.val := by decide +kernel
  rw [Int32.lt_iff_toInt_lt] at h0 h1
  have e0 : (0 : Int32).toInt = 0 := rfl
  have e1 : (255 : Int32).toInt = 255 := rfl
  obtain ⟨k, hk⟩ : ∃ k : Nat, x.toInt = k := ⟨x.toInt.toNat, by omega⟩
  have hx : x = Int32.ofNat k := Int32.toInt_inj.mp (by rw [hk, Int32.toInt_ofNat_small (by omega)])
  rw [hx]
  exact t ⟨k, by omega⟩
end StrChars
namespace StrChars.Road
open Jvm Sem ClassFile Op Lib Jvm.Stand Jvm.Free Jvm.Free.XT
open Jvm.Lib.Cold (StaticIs)
abbrev ST : String := "java/lang/String"
/-- every table word that New1's law asks, flat -/
abbrev words : List Jvm.Cond := [.code New1.yN New1.yB 2 none, .initialized ST, .methodLink ST 27 New4.yN, .instanceMethod New4.yN,
  .code New4.yN New4.yB 6 none, .fieldLink ST 38 ST "COMPACT_STRINGS" "Z", .laysFinal ST ST "value" "[B", .fieldLink ST 9 ST "value" "[B", .laysFinal ST ST "coder" "B", .fieldLink ST 15 ST "coder" "B",
  .methodLink ST 1 Lib.objectInit, .instanceMethod Lib.objectInit, .code Lib.objectInit ⟨#[0xb1]⟩ 1 none, .methodLink ST 177 Cmp3.yN, .static Cmp3.yN, .methodLink ST 47 CodL.yN, .static CodL.yN,
  .code Cmp3.yN Cmp3.yB 6 (some (.array .byte)), .initialized U16, .arrayClass .byte, .methodLink U16 115 Cmp5.yN, .static Cmp5.yN, .code Cmp5.yN Cmp5.yB 7 (some .int), .code CodL.yN CodL.yB 2 (some .byte)]
theorem tab_of {a : Array Value} {s : State} (h : ∀ w ∈ words, w.before a s = true) : New1.tab.before a s = true := by
  have h5 : Cmp5.tab.before a s = true := unparts (wk h (.code Cmp5.yN Cmp5.yB 7 (some .int))) (wks h (.initialized Cmp5.yN.cls :: Cmp5.site))
  have hc : CodL.tab.before a s = true := unparts (wk h (.code CodL.yN CodL.yB 2 (some .byte))) (wks h (.initialized CodL.yN.cls :: CodL.site))
  have q5 : ∀ w ∈ Cmp5.tab :: words, w.before a s = true := fun w hw => (List.mem_cons.mp hw).elim (fun e => e ▸ h5) (h w)
  have h3 : Cmp3.tab.before a s = true := unparts (wk q5 (.code Cmp3.yN Cmp3.yB 6 (some (.array .byte)))) (wks q5 (.initialized Cmp3.yN.cls :: Cmp3.site))
  have q3 : ∀ w ∈ Cmp3.tab :: CodL.tab :: words, w.before a s = true := fun w hw => (List.mem_cons.mp hw).elim (fun e => e ▸ h3) fun hw => (List.mem_cons.mp hw).elim (fun e => e ▸ hc) (h w)
  have h4 : New4.tab.before a s = true := unparts (wk q3 (.code New4.yN New4.yB 6 none)) (wks q3 (.initialized New4.yN.cls :: New4.site))
  have q4 : ∀ w ∈ New4.tab :: words, w.before a s = true := fun w hw => (List.mem_cons.mp hw).elim (fun e => e ▸ h4) (h w)
  exact unparts (wk q4 (.code New1.yN New1.yB 2 none)) (wks q4 (.initialized New1.yN.cls :: New1.site))
/-- the words ride from the start Z to the walk's own state -/
theorem moved {Z s : State} {a0 args : Array Value} (hZ : Z.Warmed39 s.vm) (hw : ∀ d ∈ words, d.before a0 Z = true) : ∀ d ∈ words, d.before args s = true := fun d hd => by
  have q := hw d hd
  have t : ∀ d ∈ words, d = .arrayClass .byte ∨ (d.onTables && d.keepsFace) = true := by decide +kernel
  rcases t d hd with rfl | t
  · exact RoadKit.mvA hZ q
  · exact RoadKit.mv hZ q t
/-- WHAT COMES BACK, over the tables of the start Z: h the heap at the call, h' behind it -/
def Q (Z : State) (x : Addr) (A : Cell) (h : Heap) (v : Option Value) (h' : Heap) (L : List Loc) : Prop := v = none ∧ (∀ y ∈ L, y.base = x) ∧ RoadKit.Keep h h' [x] ∧ h'.size = h.size + 1 ∧ RoadKit.Exa Z h' x ST ∧ RoadKit.Fld Z h' x ST "value" "[B" (.ref h.size) ∧ RoadKit.Fld Z h' x ST "coder" "B" (.int 0) ∧
  (∃ V : Cell, RoadKit.Arr Z h' h.size V .byte ∧ V.vm = .none ∧ Z.vm.findClass "[B" = some V.cls ∧ V.slots.size = A.slots.size ∧ ∀ j, j < A.slots.size → V.slots[j]? = some (.int (lo8 (cv A j)))) ∧
  ∀ (O n d : String) (w : Value), RoadKit.Fld Z h x O n d w → RoadKit.slotOf Z O n d ≠ RoadKit.slotOf Z ST "value" "[B" → RoadKit.slotOf Z O n d ≠ RoadKit.slotOf Z ST "coder" "B" → RoadKit.Fld Z h' x O n d w
/-- **new String(chars) AT A CALL, IN THE ROAD'S FORM**: for specialBack behind newO: x the fresh String, b the char[] with the cell A -/
theorem back {p : Program} {l : Launch} {e : Env} {R : Room} {s : State} {args : Array Value} {below : List Frame} {len W : Nat} {Z : State} {a0 : Array Value} {h : Heap} (hZ : Z.Warmed39 s.vm) (hw : ∀ d ∈ words, d.before a0 Z = true) {kI : Nat} (wi : (Jvm.Cond.instantiable ST kI).before a0 Z = true)
    {x b : Addr} {A : Cell} {z : Int32} {v0 c0 : Value} (E : RoadKit.Exa Z h x ST) (V : RoadKit.Fld Z h x ST "value" "[B" v0) (C : RoadKit.Fld Z h x ST "coder" "B" c0) (K : RoadKit.Arr Z h b A .char) (hty : Typed .char A) (S : RoadKit.Sta Z h ST "COMPACT_STRINGS" "Z" (.int z)) (hz : ¬ z = 0)
    (l0 : 0 < A.slots.size) (l2 : A.slots.size ≤ 536870912) (hp : ∀ i, i < A.slots.size → ¬ 255 < cv A i) (hfr : 4 ≤ R.frames) (hlo : W + 65 ≤ R.locals) :
    Back l R p e below s args New1.yN len W (fun P a => a = #[.ref x, .ref b] ∧ P.U.heap = h ∧ P.cells + 1 ≤ R.cells ∧ P.slots + A.slots.size ≤ R.slots)
      (fun P _ v B => ∃ L, Q Z x A h v B.U.heap L ∧ B.locs = P.locs ++ L ∧ B.cells = P.cells + 1 ∧ B.slots = P.slots + A.slots.size) := by
  intro m meth c P g ig mk a X hg hsize hdg hW hn hp'
  obtain ⟨rfl, rfl, r1, r2⟩ := hp'
  have al : Z.vm.Alike P.U.vm := hZ.alike.trans X.warmed.alike
  obtain ⟨D, cfV, kV, iV, fV, hD, gV, stV, knV, obV, asV, slV⟩ := id V
  obtain ⟨D', cfC, kC, iC, fC, hD', gC, stC, -, -, asC, slC⟩ := id C
  cases hD.symm.trans hD'
  obtain ⟨D2, kD, e1, e2, e3, e4, e5⟩ := id E
  cases hD.symm.trans e1
  obtain ⟨c2, k2, i1, i2, i3, -⟩ := Cond.instantiable_spec wi
  cases e2.symm.trans i1
  cases e3.symm.trans i2
  obtain ⟨kU, u1, u2⟩ := al.2.2 _ _ e3
  have hB : Blank ST x D P.U := ⟨hD, ⟨knV, fun q hq => by rw [hq] at obV; cases obV⟩, by rw [al.findClass]; exact e2, kU, u1, by rw [u2]; exact i3, by rw [u2]; exact e5 i3⟩
  have F1 : Found ST "value" "[B" fV P.U := ⟨SBG.found_only al ⟨cfV, kV, iV, gV⟩, stV⟩
  have F2 : Found ST "coder" "B" fC P.U := ⟨SBG.found_only al ⟨cfC, kC, iC, gC⟩, stC⟩
  have hA : Ch b A P.U := ⟨⟨K.1, State.isArrayOf_alike al K.2.1, K.2.2, by omega⟩, hty⟩
  have hS : StaticIs P.U ST "COMPACT_STRINGS" "Z" (.int z) := by
    obtain ⟨cfS, iS, kS, fS, st, cS, t1, t2, t3, t4, t5, t6, t7⟩ := S
    exact StaticIs.there (s := { Z with heap := P.U.heap }) ⟨cfS, iS, kS, fS, st, cS, t1, t2, t3, t4, t5, (fun q => by rw [q] at t6; cases t6), t7⟩ al rfl
  obtain ⟨v, B, X', ⟨⟨hv, E', V', q1, q2, q3, q4, q5, q6, q7, q8, q9, q10, q11⟩, hl, hc, hs⟩, st⟩ := New1.pays x D fV fC b A z (tab_of (moved hZ hw)) hfr hlo m meth c P g ig mk _ X hg hsize hdg hW hn ⟨r1, r2, rfl, hB, F1, F2, hA, hS, hz, l0, l2, hp⟩
  have al' : Z.vm.Alike B.U.vm := hZ.alike.trans X'.warmed.alike
  have hsz : E'.slots.size = D.slots.size := by
    obtain ⟨-, -, -, kB, w1, w2, w3⟩ := q1
    obtain ⟨kB', y1, y2⟩ := al'.2.2 _ _ e3
    rw [q2.2.1] at w1
    cases w1.symm.trans y1
    rw [w3, e5 i3, y2]
  refine ⟨v, B, X', ⟨_, ⟨hv, ?_, ⟨by omega, fun y cy hy hn' => q10 y cy (by simpa using hn') hy, fun y cy hy => ?_⟩, q11, ⟨E', _, q1.1, by rw [q2.2.1]; exact e2, by rw [q2.2.1]; exact e3, by rw [q2.1]; exact obV, fun _ => by rw [hsz]; exact e5 i3⟩,
    ⟨E', cfV, kV, iV, fV, q1.1, gV, stV, by rw [q2.1]; exact knV, by rw [q2.1]; exact obV, by rw [q2.2.1]; exact asV, q3⟩, ⟨E', cfC, kC, iC, fC, q1.1, gC, stC, by rw [q2.1]; exact knV, by rw [q2.1]; exact obV, by rw [q2.2.1]; exact asC, q4⟩,
    ⟨V', ⟨q5.1, State.isArrayOf_alike al'.symm q5.2.1, q5.2.2.1⟩, q6, by rw [← al'.findClass]; exact q7, q8, fun j hj => by have := q9 j hj; rwa [Nat.zero_add] at this⟩, fun O n d w F n1 n2 => ?_⟩, hl, hc, hs⟩, st⟩
  · intro y hy
    simp only [List.mem_cons, List.not_mem_nil, or_false] at hy
    rcases hy with rfl | rfl <;> rfl
  · by_cases q : y = x
    · subst q
      cases hD.symm.trans hy
      exact ⟨E', q1.1, q2.2.1, q2.1, hsz⟩
    · exact ⟨cy, q10 y cy q hy, rfl, rfl, rfl⟩
  · obtain ⟨D3, cf, k, i, f, g1, g2, g3, g4, g5, g6, g7⟩ := F
    cases hD.symm.trans g1
    simp only [RoadKit.slotOf, g2, gV, gC, Option.map_some, Option.getD_some] at n1 n2
    exact ⟨E', cf, k, i, f, q1.1, g2, g3, by rw [q2.1]; exact g4, by rw [q2.1]; exact g5, by rw [q2.2.1]; exact g6, by rw [q2.2.2 f.slot (by simp [n1, n2])]; exact g7⟩
end StrChars.Road
namespace StrChars.Road
open Jvm Sem ClassFile Op Lib Jvm.Stand Jvm.Free Jvm.Free.XT
/-- WHAT COMES BACK, the byte[] as a list of values -/
def QA (Z : State) (x : Addr) (zn : Int32) (cs : List Int32) (h : Heap) (v : Option Value) (h' : Heap) (L : List Loc) : Prop := v = none ∧ (∀ y ∈ L, y.base = x) ∧ RoadKit.Keep h h' [x] ∧ h'.size = h.size + 1 ∧ RoadKit.Exa Z h' x ST ∧ RoadKit.Fld Z h' x ST "value" "[B" (.ref h.size) ∧ RoadKit.Fld Z h' x ST "coder" "B" (.int 0) ∧
  (∃ kb, Z.vm.findClass "[B" = some kb ∧ RoadKit.Arv Z h' h.size kb .byte zn (cs.map fun c => .int (lo8 c)) (.int 0)) ∧
  ∀ (O n d : String) (w : Value), RoadKit.Fld Z h x O n d w → RoadKit.slotOf Z O n d ≠ RoadKit.slotOf Z ST "value" "[B" → RoadKit.slotOf Z O n d ≠ RoadKit.slotOf Z ST "coder" "B" → RoadKit.Fld Z h' x O n d w
/-- **new String(chars) AT A CALL, THE ARRAYS AS LISTS**: the char[] at b holds cs, not empty, no char above 255 -/
theorem backArv {p : Program} {l : Launch} {e : Env} {R : Room} {s : State} {args : Array Value} {below : List Frame} {len W : Nat} {Z : State} {a0 : Array Value} {h : Heap} (hZ : Z.Warmed39 s.vm) (hw : ∀ d ∈ words, d.before a0 Z = true) {kI : Nat} (wi : (Jvm.Cond.instantiable ST kI).before a0 Z = true)
    {x b : Addr} {k : ClassId} {zn z : Int32} {cs : List Int32} {dv v0 c0 : Value} (E : RoadKit.Exa Z h x ST) (V : RoadKit.Fld Z h x ST "value" "[B" v0) (C : RoadKit.Fld Z h x ST "coder" "B" c0) (K : RoadKit.Arv Z h b k .char zn (cs.map Value.int) dv) (S : RoadKit.Sta Z h ST "COMPACT_STRINGS" "Z" (.int z)) (hz : ¬ z = 0)
    (hlen : zn.toNatClampNeg = cs.length) (h0 : 0 < cs.length) (hbig : cs.length ≤ 536870912) (hall : ∀ c ∈ cs, ¬ 255 < c) (hfr : 4 ≤ R.frames) (hlo : W + 65 ≤ R.locals) :
    Back l R p e below s args New1.yN len W (fun P a => a = #[.ref x, .ref b] ∧ P.U.heap = h ∧ P.cells + 1 ≤ R.cells ∧ P.slots + cs.length ≤ R.slots)
      (fun P _ v B => ∃ L, QA Z x zn cs h v B.U.heap L ∧ B.locs = P.locs ++ L ∧ B.cells = P.cells + 1 ∧ B.slots = P.slots + cs.length) := by
  obtain ⟨A, K1, K2, K3, K4, K5, K6⟩ := K
  have e : A.slots.size = cs.length := K3.trans hlen
  have hat : ∀ (i : Nat) (hi : i < cs.length), A.slots[i]? = some (.int cs[i]) := fun i hi => by rw [K5 i (by omega)]; simp [List.getD_eq_getElem?_getD, hi]
  have hcv : ∀ (i : Nat) (hi : i < cs.length), cv A i = cs[i] := fun i hi => by unfold cv; rw [hat i hi]
  have hty : Typed .char A := fun i v hv => by
    have hi : i < A.slots.size := (Array.getElem?_eq_some_iff.mp hv).1
    have q := K5 i hi
    rw [hv] at q
    rw [Option.some.inj q]
    exact K6 i hi
  refine Back.mono (back hZ hw wi E V C K1 hty S hz (by omega) (by omega) (fun i hi => by rw [hcv i (by omega)]; exact hall _ (List.getElem_mem _)) hfr hlo) (fun P a hp => ⟨hp.1, hp.2.1, hp.2.2.1, by rw [e]; exact hp.2.2.2⟩) (fun P a v B hp hq => ?_)
  obtain ⟨L, ⟨q1, q2, q3, q4, q5, q6, q7, ⟨V', v1, v2, v3, v4, v5⟩, q9⟩, hl, hc, hs⟩ := hq
  refine ⟨L, ⟨q1, q2, q3, q4, q5, q6, q7, ⟨V'.cls, v3, V', v1, rfl, by rw [v4, e, hlen], K4, fun i hi => ?_, fun i hi => ?_⟩, q9⟩, hl, hc, by rw [hs, e]⟩
  · have hi' : i < cs.length := by omega
    rw [v5 i (by omega), hcv i hi']; simp [List.getD_eq_getElem?_getD, hi']
  · have hi' : i < cs.length := by omega
    simp only [List.getD_eq_getElem?_getD, List.getElem?_map, List.getElem?_eq_getElem hi', Option.map_some, Option.getD_some]
    exact fits_lo8 _
end StrChars.Road
namespace StrChars.Road
open Jvm Sem ClassFile Op Lib Jvm.Stand Jvm.Free Jvm.Free.XT
/-- WHAT COMES BACK, in the writer's own shape -/
def QV (Z : State) (x : Addr) (N : Int32) (bs : List Int32) (h : Heap) (n0 : Nat) (v : Option Value) (h' : Heap) (L : List Loc) : Prop := v = none ∧ RoadKit.Fr n0 L ∧ RoadKit.Keep h h' [x] ∧ RoadKit.Exa Z h' x ST ∧ RoadKit.Fld Z h' x ST "coder" "B" (.int 0) ∧
  ∃ (t : Addr) (kb : ClassId), n0 ≤ t ∧ h.size ≤ t ∧ ¬ t = x ∧ RoadKit.Fld Z h' x ST "value" "[B" (.ref t) ∧ RoadKit.Arv Z h' t kb .byte N (bs.map Value.int) (.int 0)
/-- **new String(chars) AT A CALL, FOR THE WRITER**: a char[] of n known ints, each 0 to 255 -/
theorem backV {p : Program} {l : Launch} {e : Env} {R : Room} {s : State} {args : Array Value} {below : List Frame} {len W : Nat} {Z : State} {a0 : Array Value} {h : Heap} (hZ : Z.Warmed39 s.vm) (hw : ∀ d ∈ words, d.before a0 Z = true) {kI : Nat} (wi : (Jvm.Cond.instantiable ST kI).before a0 Z = true)
    {x b : Addr} {kC : ClassId} {cs bs : List Int32} {d v0 c0 : Value} {z N : Int32} {n n0 : Nat} (hx0 : n0 ≤ x) (hh0 : n0 ≤ h.size) (E : RoadKit.Exa Z h x ST) (V : RoadKit.Fld Z h x ST "value" "[B" v0) (C : RoadKit.Fld Z h x ST "coder" "B" c0) (K : RoadKit.Arv Z h b kC .char N (cs.map Value.int) d) (S : RoadKit.Sta Z h ST "COMPACT_STRINGS" "Z" (.int z)) (hz : ¬ z = 0)
    (hn : cs.length = n) (hN : N = Int32.ofNat n) (l0 : 0 < n) (l2 : n ≤ 4000) (hp : ∀ c ∈ cs, ¬ c < 0 ∧ ¬ (255 : Int32) < c) (hb : bs = cs.map (fun c => c.toInt8.toInt32)) (hfr : 4 ≤ R.frames) (hlo : W + 65 ≤ R.locals) :
    Back l R p e below s args (⟨"java/lang/String", "<init>", "([C)V"⟩ : MethodName) len W (fun P a => a = #[.ref x, .ref b] ∧ P.U.heap = h ∧ P.cells + 1 ≤ R.cells ∧ P.slots + n ≤ R.slots)
      (fun P _ v B => ∃ L, QV Z x N bs h n0 v B.U.heap L ∧ B.locs = P.locs ++ L ∧ B.cells = P.cells + 1 ∧ B.slots = P.slots + n) := by
  subst hn hN hb
  refine Back.mono (backArv hZ hw wi E V C K S hz (n32 (by omega)) l0 (by omega) (fun c hc => (hp c hc).2) hfr hlo) (fun P a hp => hp) (fun P a v B hp hq => ?_)
  obtain ⟨L, ⟨q1, q2, q3, q4, q5, q6, q7, ⟨kb, v1, v2⟩, q9⟩, hl, hc, hs⟩ := hq
  exact ⟨L, ⟨q1, fun y hy => by rw [q2 y hy]; exact hx0, q3, q5, q7, h.size, kb, hh0, Nat.le_refl _, Nat.ne_of_gt E.lt, q6, by rw [List.map_map]; exact v2⟩, hl, hc, hs⟩
end StrChars.Road
namespace StrChars
open Jvm Sem ClassFile Op Lib Jvm.Stand Jvm.Free.XT Jvm.Free.ALB Jvm.Free.JM Jvm.Free
open Jvm.Lib.Cold (StaticIs)
def hi8 (x : Int32) : Int32 := lo8 (x >>> ((8 : Int32) &&& 31))
/-- what StringUTF16.getChar makes of two bytes -/
def pairCh (u v : Int32) : Int32 := (((u &&& 255) <<< ((0 : Int32) &&& 31)) ||| ((v &&& 255) <<< ((8 : Int32) &&& 31))).toUInt32.toUInt16.toUInt32.toInt32
theorem lo8_and (x : Int32) : (lo8 x &&& 255).toBitVec.toNat = x.toBitVec.toNat % 256 := by
  have h : (lo8 x).toBitVec = (x.toBitVec.signExtend 8).signExtend 32 := by rw [lo8, Int8.toBitVec_toInt32, Int32.toBitVec_toInt8]
  rw [Int32.toBitVec_and, BitVec.toNat_and, h]
  have e : ((x.toBitVec.signExtend 8).signExtend 32).toNat % 256 = x.toBitVec.toNat % 256 := by
    rw [BitVec.toNat_signExtend]
    have hlt := x.toBitVec.isLt
    simp only [BitVec.toNat_setWidth, BitVec.toNat_signExtend]
    split <;> split <;> omega
  rw [← e]
  exact Nat.and_two_pow_sub_one_eq_mod _ 8
theorem pair_says {c : Int32} (h0 : ¬ c < 0) (h1 : ¬ 65535 < c) : pairCh (lo8 c) (hi8 c) = c := by
  rw [Int32.lt_iff_toInt_lt] at h0 h1
  have e0 : (0 : Int32).toInt = 0 := rfl
  have e1 : (65535 : Int32).toInt = 65535 := rfl
  have hc : c.toInt = c.toBitVec.toNat := by
    have := c.toBitVec.isLt
    have e : c.toInt = c.toBitVec.toInt := rfl
    rw [e] at h0 h1
    rw [e]
    rw [BitVec.toInt_eq_toNat_cond] at h0 h1 ⊢
    split at h0 <;> split <;> omega
  have hn : c.toBitVec.toNat < 65536 := by omega
  have a1 := lo8_and c
  have a2 : (hi8 c &&& 255).toBitVec.toNat = c.toBitVec.toNat / 256 := by
    rw [hi8, lo8_and]
    have e : ((8 : Int32) &&& 31) = 8 := by decide
    rw [e, Int32.toBitVec_shiftRight]
    have e2 : ((8 : Int32).toBitVec.smod 32) = 8#32 := by decide
    rw [e2, BitVec.sshiftRight_eq', BitVec.toNat_sshiftRight_of_msb_false (by rw [BitVec.msb_eq_false_iff_two_mul_lt]; omega)]
    show c.toBitVec.toNat >>> 8 % 256 = _
    rw [Nat.shiftRight_eq_div_pow]
    omega
  unfold pairCh
  apply Int32.toBitVec_inj.mp
  apply BitVec.eq_of_toNat_eq
  have f0 : ((0 : Int32) &&& 31) = 0 := by decide
  have f8 : ((8 : Int32) &&& 31) = 8 := by decide
  rw [f0, f8]
  have g : (((lo8 c &&& 255) <<< (0 : Int32)) ||| ((hi8 c &&& 255) <<< (8 : Int32))).toBitVec.toNat = c.toBitVec.toNat := by
    rw [Int32.toBitVec_or, Int32.toBitVec_shiftLeft, Int32.toBitVec_shiftLeft]
    have s0 : ((0 : Int32).toBitVec.smod 32) = 0#32 := by decide
    have s8 : ((8 : Int32).toBitVec.smod 32) = 8#32 := by decide
    rw [s0, s8, BitVec.toNat_or]
    simp only [BitVec.shiftLeft_eq', BitVec.toNat_shiftLeft, a1, a2]
    show (c.toBitVec.toNat % 256) <<< 0 % 2 ^ 32 ||| (c.toBitVec.toNat / 256) <<< 8 % 2 ^ 32 = _
    rw [Nat.shiftLeft_zero, Nat.mod_eq_of_lt (show c.toBitVec.toNat % 256 < 2 ^ 32 by omega), Nat.mod_eq_of_lt (show (c.toBitVec.toNat / 256) <<< 8 < 2 ^ 32 by rw [Nat.shiftLeft_eq]; omega), Nat.or_comm, ← Nat.shiftLeft_add_eq_or_of_lt (by omega), Nat.shiftLeft_eq]
    omega
  show BitVec.toNat (((((lo8 c &&& 255) <<< (0 : Int32)) ||| ((hi8 c &&& 255) <<< (8 : Int32))).toBitVec.setWidth 16).setWidth 32) = _
  rw [BitVec.toNat_setWidth, BitVec.toNat_setWidth, g]
  omega
end StrChars
namespace StrChars
open Jvm Sem ClassFile Op Lib Jvm.Stand Jvm.Free.XT Jvm.Free.ALB Jvm.Free.JM Jvm.Free
open Jvm.Lib.Cold (StaticIs)
/-- the array's cell V codes the n chars f 0 .. f (n - 1) by the coder cd, as the JDK does: coder 1 just where some char is above 255 -/
def Cod (cd : Int32) (n : Nat) (f : Nat → Int32) (V : Cell) : Prop := (cd = 0 ∧ V.slots.size = n ∧ ∀ j, j < n → V.slots[j]? = some (.int (lo8 (f j))) ∧ ¬ 255 < f j) ∨ (cd = 1 ∧ V.slots.size = 2 * n ∧ (∀ j, j < n → V.slots[2 * j]? = some (.int (lo8 (f j))) ∧ V.slots[2 * j + 1]? = some (.int (hi8 (f j)))) ∧ ∃ j, j < n ∧ 255 < f j)
/-- **x is a String of the n chars f 0 .. f (n - 1)**, Latin-1 or UTF-16; its array at t has the cell V -/
def Txt (x t : Addr) (V : Cell) (cd : Int32) (n : Nat) (f : Nat → Int32) (U : State) : Prop := Exact "java/lang/String" x U ∧ Has x "java/lang/String" "value" "[B" (.ref t) U ∧ Has x "java/lang/String" "coder" "B" (.int cd) U ∧ XT.Arr .byte t V U ∧ Cod cd n f V ∧ ∀ j, j < n → ¬ f j < 0 ∧ ¬ 65535 < f j
theorem Txt.mv {x t : Addr} {V : Cell} {cd : Int32} {n : Nat} {f : Nat → Int32} {U U' : State} (h : Txt x t V cd n f U) (hal : U.vm.Alike U'.vm) (hh : U'.heap = U.heap) : Txt x t V cd n f U' := ⟨h.1.mv hal hh, h.2.1.mv hal hh, h.2.2.1.mv hal hh, h.2.2.2.1.mv hal hh, h.2.2.2.2⟩
end StrChars
namespace StrChars.Road
open Jvm Sem ClassFile Op Lib Jvm.Stand Jvm.Free Jvm.Free.XT
open Jvm.Lib.Cold (StaticIs)
theorem consq {a : Array Value} {s : State} {c : Jvm.Cond} {L : List Jvm.Cond} (h0 : c.before a s = true) (h : ∀ w ∈ L, w.before a s = true) : ∀ w ∈ c :: L, w.before a s = true := fun w hw => (List.mem_cons.mp hw).elim (fun e => e ▸ h0) (h w)
/-- the bytes of the chars cs, low before high -/
def wideBytes : List Int32 → List Value
  | [] => []
  | c :: cs => .int (lo8 c) :: .int (hi8 c) :: wideBytes cs
theorem wide_lo (d : Value) : ∀ (cs : List Int32) (j : Nat), j < cs.length → (wideBytes cs).getD (2 * j) d = .int (lo8 (cs.getD j 0))
  | [], j, h => absurd h (Nat.not_lt_zero j)
  | c :: cs, 0, _ => rfl
  | c :: cs, j + 1, h => by
    have q := wide_lo d cs j (by simpa using h)
    rw [show 2 * (j + 1) = 2 * j + 1 + 1 from by omega]
    simpa [wideBytes] using q
theorem wide_hi (d : Value) : ∀ (cs : List Int32) (j : Nat), j < cs.length → (wideBytes cs).getD (2 * j + 1) d = .int (hi8 (cs.getD j 0))
  | [], j, h => absurd h (Nat.not_lt_zero j)
  | c :: cs, 0, _ => rfl
  | c :: cs, j + 1, h => by
    have q := wide_hi d cs j (by simpa using h)
    rw [show 2 * (j + 1) + 1 = 2 * j + 1 + 1 + 1 from by omega]
    simpa [wideBytes] using q
theorem low_at (d : Value) (cs : List Int32) (j : Nat) (h : j < cs.length) : (cs.map fun c => Value.int (lo8 c)).getD j d = .int (lo8 (cs.getD j 0)) := by
  simp [List.getD_eq_getElem?_getD, h]
/-- an array of N2 bytes vs codes the chars cs by the coder cd -/
def CodA (cs : List Int32) (cd N2 : Int32) (vs : List Value) : Prop := (cd = 0 ∧ N2 = Int32.ofNat cs.length ∧ vs = (cs.map fun c => Value.int (lo8 c)) ∧ ∀ c ∈ cs, ¬ 255 < c) ∨ (cd = 1 ∧ N2 = Int32.ofNat (2 * cs.length) ∧ vs = wideBytes cs ∧ ∃ c ∈ cs, 255 < c)
theorem CodA.cod {cs : List Int32} {cd N2 : Int32} {vs : List Value} {V : Cell} (h : CodA cs cd N2 vs) (hn : 2 * cs.length < 2 ^ 31) (hs : V.slots.size = N2.toNatClampNeg) (hv : RoadKit.Has V vs (.int 0)) : Cod cd cs.length (fun j => cs.getD j 0) V := by
  rcases h with ⟨rfl, rfl, rfl, h⟩ | ⟨rfl, rfl, rfl, c, hc, hw⟩
  · rw [n32 (by omega)] at hs
    exact Or.inl ⟨rfl, hs, fun j hj => ⟨by rw [hv j (by omega), low_at _ _ _ hj], by
      have e : cs.getD j 0 = cs[j] := by simp [List.getD_eq_getElem?_getD, hj]
      show ¬ 255 < cs.getD j 0
      rw [e]; exact h _ (List.getElem_mem _)⟩⟩
  · rw [n32 (by omega)] at hs
    obtain ⟨j, hj, rfl⟩ := List.getElem_of_mem hc
    exact Or.inr ⟨rfl, hs, fun j hj => ⟨by rw [hv _ (by omega), wide_lo _ _ _ hj], by rw [hv _ (by omega), wide_hi _ _ _ hj]⟩, j, hj, by
      have e : cs.getD j 0 = cs[j] := by simp [List.getD_eq_getElem?_getD, hj]
      show 255 < cs.getD j 0
      rw [e]; exact hw⟩
/-- an object of exactly java/lang/String, its two fields found: as the laws ask it -/
theorem strObj {Z U : State} {a0 : Array Value} {kI : Nat} (wi : (Jvm.Cond.instantiable ST kI).before a0 Z = true) (al : Z.vm.Alike U.vm) {x : Addr} {v0 c0 : Value} (E : RoadKit.Exa Z U.heap x ST) (V : RoadKit.Fld Z U.heap x ST "value" "[B" v0) (C : RoadKit.Fld Z U.heap x ST "coder" "B" c0) :
    ∃ (D : Cell) (fV fC : Field), Blank ST x D U ∧ Found ST "value" "[B" fV U ∧ Found ST "coder" "B" fC U ∧ D.slots[fV.slot]? = some v0 ∧ D.slots[fC.slot]? = some c0 ∧ RoadKit.slotOf Z ST "value" "[B" = fV.slot ∧ RoadKit.slotOf Z ST "coder" "B" = fC.slot := by
  obtain ⟨D, cfV, kV, iV, fV, hD, gV, stV, knV, obV, asV, slV⟩ := V
  obtain ⟨D', cfC, kC, iC, fC, hD', gC, stC, -, -, asC, slC⟩ := C
  cases hD.symm.trans hD'
  obtain ⟨D2, kD, e1, e2, e3, e4, e5⟩ := E
  cases hD.symm.trans e1
  obtain ⟨c2, k2, i1, i2, i3, -⟩ := Cond.instantiable_spec wi
  cases e2.symm.trans i1
  cases e3.symm.trans i2
  obtain ⟨kU, u1, u2⟩ := al.2.2 _ _ e3
  exact ⟨D, fV, fC, ⟨hD, ⟨knV, fun q hq => by rw [hq] at obV; cases obV⟩, by rw [al.findClass]; exact e2, kU, u1, by rw [u2]; exact i3, by rw [u2]; exact e5 i3⟩, ⟨SBG.found_only al ⟨cfV, kV, iV, gV⟩, stV⟩, ⟨SBG.found_only al ⟨cfC, kC, iC, gC⟩, stC⟩, slV, slC, by simp [RoadKit.slotOf, gV], by simp [RoadKit.slotOf, gC]⟩
theorem sta_is {Z U : State} (al : Z.vm.Alike U.vm) {C n d : String} {v : Value} (S : RoadKit.Sta Z U.heap C n d v) : StaticIs U C n d v := by
  obtain ⟨cfS, iS, kS, fS, st, cS, t1, t2, t3, t4, t5, t6, t7⟩ := S
  exact StaticIs.there (s := { Z with heap := U.heap }) ⟨cfS, iS, kS, fS, st, cS, t1, t2, t3, t4, t5, (fun q => by rw [q] at t6; cases t6), t7⟩ al rfl
end StrChars.Road
namespace StrChars
open Jvm Sem ClassFile Op Lib Jvm.Stand Jvm.Free.XT Jvm.Free.ALB Jvm.Free.JM Jvm.Free
open Jvm.Lib.Cold (StaticIs)
/-- what place i of a byte[]'s cell holds -/
def yv (A : Cell) (i : Nat) : Int32 := match A.slots[i]? with | some (.int x) => x | _ => 0
theorem yv_get {a : Addr} {A : Cell} {U : State} (h : XT.Arr .byte a A U) (ht : Typed .byte A) {i : Nat} (hi : i < A.slots.size) : A.slots[i]? = some (.int (yv A i)) := by
  have e := Array.getElem?_eq_getElem hi
  have f := ht i _ e
  unfold yv; rw [e]
  generalize A.slots[i] = v at f
  cases v <;> simp [fits] at f ⊢
/-- the two arrays are equal, place for place -/
def EqC (A B : Cell) : Prop := A.slots.size = B.slots.size ∧ ∀ i, i < A.slots.size → yv A i = yv B i
/-- a boolean that says whether p -/
def Says01 (q : Prop) (r : Option Value) (s u : State) : Prop := ∃ v : Int32, r = some (.int v) ∧ u.heap = s.heap ∧ ((v = 1 ∧ q) ∨ (v = 0 ∧ ¬ q))
theorem Says01.mv {q : Prop} : ∀ r (U U' V V' : State), U'.heap = U.heap → V.vm.Alike V'.vm → V'.heap = V.heap → Says01 q r U V → Says01 q r U' V' :=
  fun r U U' V V' h1 _ h2 ⟨v, a, b, c⟩ => ⟨v, a, by rw [h1, h2]; exact b, c⟩
namespace LEq
def yN : MethodName := ⟨"java/lang/StringLatin1", "equals", "([B[B)Z"⟩
abbrev yB : ByteArray := jdk_43_method_13_code
theorem d0 : decode yB 0 = .ok (.aload_n 0, 1) := by decide +kernel
theorem d1 : decode yB 1 = .ok (.arraylength, 1) := by decide +kernel
theorem d2 : decode yB 2 = .ok (.aload_n 1, 1) := by decide +kernel
theorem d3 : decode yB 3 = .ok (.arraylength, 1) := by decide +kernel
theorem d4 : decode yB 4 = .ok (.if_icmp (.ne) 30, 3) := by decide +kernel
theorem d7 : decode yB 7 = .ok (.iconst 0, 1) := by decide +kernel
theorem d8 : decode yB 8 = .ok (.istore_n 2, 1) := by decide +kernel
theorem d9 : decode yB 9 = .ok (.iload_n 2, 1) := by decide +kernel
theorem d10 : decode yB 10 = .ok (.aload_n 0, 1) := by decide +kernel
theorem d11 : decode yB 11 = .ok (.arraylength, 1) := by decide +kernel
theorem d12 : decode yB 12 = .ok (.if_icmp (.ge) 20, 3) := by decide +kernel
theorem d15 : decode yB 15 = .ok (.aload_n 0, 1) := by decide +kernel
theorem d16 : decode yB 16 = .ok (.iload_n 2, 1) := by decide +kernel
theorem d17 : decode yB 17 = .ok (.baload, 1) := by decide +kernel
theorem d18 : decode yB 18 = .ok (.aload_n 1, 1) := by decide +kernel
theorem d19 : decode yB 19 = .ok (.iload_n 2, 1) := by decide +kernel
theorem d20 : decode yB 20 = .ok (.baload, 1) := by decide +kernel
theorem d21 : decode yB 21 = .ok (.if_icmp (.eq) 5, 3) := by decide +kernel
theorem d24 : decode yB 24 = .ok (.iconst 0, 1) := by decide +kernel
theorem d25 : decode yB 25 = .ok (.ireturn, 1) := by decide +kernel
theorem d26 : decode yB 26 = .ok (.iinc 2 1, 3) := by decide +kernel
theorem d29 : decode yB 29 = .ok (.goto (-20), 3) := by decide +kernel
theorem d32 : decode yB 32 = .ok (.iconst 1, 1) := by decide +kernel
theorem d33 : decode yB 33 = .ok (.ireturn, 1) := by decide +kernel
theorem d34 : decode yB 34 = .ok (.iconst 0, 1) := by decide +kernel
theorem d35 : decode yB 35 = .ok (.ireturn, 1) := by decide +kernel
def site : List Cond := []
def tab : Cond := tabOf yN yB 3 (some .boolean) site
def P (a : Addr) (A : Cell) (b : Addr) (B : Cell) (args : Array Value) (s : State) : Prop := args = #[.ref a, .ref b] ∧ XT.Arr .byte a A s ∧ Typed .byte A ∧ XT.Arr .byte b B s ∧ Typed .byte B
/-- whether two byte[] are equal, place for place -/
theorem law (l : Launch) (a : Addr) (A : Cell) (b : Addr) (B : Cell) : Law l yN 2 2 0 0 yB 3 (some .boolean) site (P a A b B) (Says01 (EqC A B)) [] 0 0 := by
  refine Law.of_walk (plainFor_of_name (by decide +kernel)) (by decide +kernel) (by decide +kernel) (by decide) (fun _ _ h => by rw [h.1]; rfl) (fun _ U U' hal hh h => ⟨h.1, h.2.1.mv hal hh, h.2.2.1, h.2.2.2.1.mv hal hh, h.2.2.2.2⟩) (fun r U U' V V' h1 hal h2 h => Says01.mv r U U' V V' h1 hal h2 h) ?_
  intro p e s m args below meth c s₁ X0 hexec hbytes hml hret hlk hnm hown hh0 W hP
  obtain ⟨rfl, hA, tA, hB, tB⟩ := hP
  have a31 := hA.2.2.2
  have b31 := hB.2.2.2
  have hA0 := hA.mv X0.warmed.alike hh0
  have hB0 := hB.mv X0.warmed.alike hh0
  have c1 : Steps p.tables e below (s₁.setTop (entryFrame m #[.ref a, .ref b] 3)) (s₁.setTop (mkF m 0 #[.val (.ref a), .val (.ref b), .unset] [])) := entry rfl
  have c2 : Steps p.tables e below (s₁.setTop (entryFrame m #[.ref a, .ref b] 3)) (s₁.setTop (mkF m 4 #[.val (.ref a), .val (.ref b), .unset] [.int (Int32.ofNat B.slots.size), .int (Int32.ofNat A.slots.size)])) := c1.trans (by
    refine XS.aloadN X0.here hexec rfl (hb hbytes d0) rfl rfl ?_
    refine X0.alen hexec hA0 rfl rfl (hb hbytes d1) ?_
    refine XS.aloadN X0.here hexec rfl (hb hbytes d2) rfl rfl ?_
    refine X0.alen hexec hB0 rfl rfl (hb hbytes d3) ?_
    exact Steps.refl _)
  by_cases hs : A.slots.size = B.slots.size
  · have c3 : Steps p.tables e below (s₁.setTop (entryFrame m #[.ref a, .ref b] 3)) (s₁.setTop (mkF m 9 #[.val (.ref a), .val (.ref b), .val (.int 0)] [])) := c2.trans (by
      refine XS.icmpNo X0.here hexec rfl (hb hbytes d4) rfl (ii_ne_f (by rw [hs])) ?_
      refine iconstV X0.here hexec rfl 0 (hb hbytes d7) (by decide) ?_
      refine XS.istoreN X0.here hexec rfl (hb hbytes d8) rfl rfl ?_
      exact Steps.refl _)
    have loop : ∀ (r i : Nat), i + r = A.slots.size → (∀ j, j < i → yv A j = yv B j) → Steps p.tables e below (s₁.setTop (entryFrame m #[.ref a, .ref b] 3)) (s₁.setTop (mkF m 9 #[.val (.ref a), .val (.ref b), .val (.int (Int32.ofNat i))] [])) → ∃ (pc : Nat) (Ls : Array Slot) (v : Int32), (pc = 25 ∨ pc = 33) ∧ ((v = 1 ∧ EqC A B) ∨ (v = 0 ∧ ¬ EqC A B)) ∧ Steps p.tables e below (s₁.setTop (entryFrame m #[.ref a, .ref b] 3)) (s₁.setTop (mkF m pc Ls [.int v])) := by
      intro r
      induction r with
      | zero =>
        intro i hi he cl
        exact ⟨33, _, 1, Or.inr rfl, Or.inl ⟨rfl, hs, fun j hj => he j (by omega)⟩, cl.trans (by
          refine XS.iloadN X0.here hexec rfl (hb hbytes d9) rfl ?_
          refine XS.aloadN X0.here hexec rfl (hb hbytes d10) rfl rfl ?_
          refine X0.alen hexec hA0 rfl rfl (hb hbytes d11) ?_
          refine XS.icmpYes X0.here hexec rfl (pc0 := 12) rfl (hb hbytes d12) rfl (ii_ge_t (nlt32 (by omega) (by omega))) (by decide) rfl ?_
          refine iconstV X0.here hexec rfl 1 (hb hbytes d32) (by decide) ?_
          exact Steps.refl _)⟩
      | succ r ih =>
        intro i hi he cl
        have c4 : Steps p.tables e below (s₁.setTop (entryFrame m #[.ref a, .ref b] 3)) (s₁.setTop (mkF m 21 #[.val (.ref a), .val (.ref b), .val (.int (Int32.ofNat i))] [.int (yv B i), .int (yv A i)])) := cl.trans (by
          refine XS.iloadN X0.here hexec rfl (hb hbytes d9) rfl ?_
          refine XS.aloadN X0.here hexec rfl (hb hbytes d10) rfl rfl ?_
          refine X0.alen hexec hA0 rfl rfl (hb hbytes d11) ?_
          refine XS.icmpNo X0.here hexec rfl (hb hbytes d12) rfl (ii_ge_f (lt32 (by omega) (by omega))) ?_
          refine XS.aloadN X0.here hexec rfl (hb hbytes d15) rfl rfl ?_
          refine XS.iloadN X0.here hexec rfl (hb hbytes d16) rfl ?_
          refine X0.aget hexec hA0 rfl (yv_get hA tA (i := i) (by omega)) rfl rfl (hb hbytes d17) ?_
          refine XS.aloadN X0.here hexec rfl (hb hbytes d18) rfl rfl ?_
          refine XS.iloadN X0.here hexec rfl (hb hbytes d19) rfl ?_
          refine X0.aget hexec hB0 rfl (yv_get hB tB (i := i) (by omega)) rfl rfl (hb hbytes d20) ?_
          exact Steps.refl _)
        by_cases hv : yv A i = yv B i
        · have c5 : Steps p.tables e below (s₁.setTop (entryFrame m #[.ref a, .ref b] 3)) (s₁.setTop (mkF m 9 #[.val (.ref a), .val (.ref b), .val (.int (Int32.ofNat i + 1))] [])) := c4.trans (by
            refine XS.icmpYes X0.here hexec rfl (pc0 := 21) rfl (hb hbytes d21) rfl (ii_eq_t hv) (by decide) rfl ?_
            refine iincV X0.here hexec rfl 1 (hb hbytes d26) (by decide) rfl rfl ?_
            refine XS.goto X0.here hexec rfl (pc0 := 29) rfl (hb hbytes d29) (by decide) rfl ?_
            exact Steps.refl _)
          rw [succ32] at c5
          exact ih (i + 1) (by omega) (fun j hj => by
            by_cases e : j = i
            · rw [e]; exact hv
            · exact he j (by omega)) c5
        · exact ⟨25, _, 0, Or.inl rfl, Or.inr ⟨rfl, fun q => hv (q.2 i (by omega))⟩, c4.trans (by
            refine XS.icmpNo X0.here hexec rfl (hb hbytes d21) rfl (ii_eq_f hv) ?_
            refine iconstV X0.here hexec rfl 0 (hb hbytes d24) (by decide) ?_
            exact Steps.refl _)⟩
    obtain ⟨pc, Ls, v, hpc, hv, cz⟩ := loop A.slots.size 0 (by omega) (fun j hj => absurd hj (Nat.not_lt_zero j)) c3
    have nv : narrow .boolean (.int v) = .int v := by rcases hv with ⟨rfl, -⟩ | ⟨rfl, -⟩ <;> rfl
    rcases hpc with rfl | rfl
    · exact ⟨s₁, some (.int v), _, _, _, X0, rfl, rfl, rfl, (fun h => by cases h), ⟨v, rfl, hh0, hv⟩, fun fs hl => cz.trans (X0.ireturnOut hexec hret nv (Or.inr (Or.inl rfl)) (hb hbytes d25) hl)⟩
    · exact ⟨s₁, some (.int v), _, _, _, X0, rfl, rfl, rfl, (fun h => by cases h), ⟨v, rfl, hh0, hv⟩, fun fs hl => cz.trans (X0.ireturnOut hexec hret nv (Or.inr (Or.inl rfl)) (hb hbytes d33) hl)⟩
  · have c3 : Steps p.tables e below (s₁.setTop (entryFrame m #[.ref a, .ref b] 3)) (s₁.setTop (mkF m 35 #[.val (.ref a), .val (.ref b), .unset] [.int 0])) := c2.trans (by
      refine XS.icmpYes X0.here hexec rfl (pc0 := 4) rfl (hb hbytes d4) rfl (ii_ne_t (ne32 a31 b31 hs)) (by decide) rfl ?_
      refine iconstV X0.here hexec rfl 0 (hb hbytes d34) (by decide) ?_
      exact Steps.refl _)
    exact ⟨s₁, some (.int 0), _, _, _, X0, rfl, rfl, rfl, (fun h => by cases h), ⟨0, rfl, hh0, Or.inr ⟨rfl, fun q => hs q.1⟩⟩, fun fs hl => c3.trans (X0.ireturnOut hexec hret rfl (Or.inr (Or.inl rfl)) (hb hbytes d35) hl)⟩
end LEq
theorem Cod.ty {cd : Int32} {n : Nat} {f : Nat → Int32} {V : Cell} (h : Cod cd n f V) : Typed .byte V := fun i v hv => by
  have hi : i < V.slots.size := (Array.getElem?_eq_some_iff.mp hv).1
  rcases h with ⟨-, k1, k2⟩ | ⟨-, k1, k2, -⟩
  · rw [(k2 i (by omega)).1] at hv; cases hv; exact fits_lo8 _
  · rcases Nat.mod_two_eq_zero_or_one i with e | e
    · obtain ⟨j, rfl⟩ : ∃ j, i = 2 * j := ⟨i / 2, by omega⟩
      rw [(k2 j (by omega)).1] at hv; cases hv; exact fits_lo8 _
    · obtain ⟨j, rfl⟩ : ∃ j, i = 2 * j + 1 := ⟨i / 2, by omega⟩
      rw [(k2 j (by omega)).2] at hv; cases hv; exact fits_lo8 _
/-- the same text -/
def SameT (n : Nat) (f : Nat → Int32) (k : Nat) (g : Nat → Int32) : Prop := n = k ∧ ∀ j, j < n → f j = g j
theorem lo8_inj {x y : Int32} (h0 : ¬ x < 0) (h1 : ¬ 255 < x) (k0 : ¬ y < 0) (k1 : ¬ 255 < y) (h : lo8 x = lo8 y) : x = y := by
  rw [← lo8_mask h0 h1, ← lo8_mask k0 k1, h]
/-- arrays coded by one coder are equal just where the texts are -/
theorem Cod.eqv {cd : Int32} {n k : Nat} {f g : Nat → Int32} {V V' : Cell} (h : Cod cd n f V) (h' : Cod cd k g V') (hf : ∀ j, j < n → ¬ f j < 0 ∧ ¬ 65535 < f j) (hg : ∀ j, j < k → ¬ g j < 0 ∧ ¬ 65535 < g j) : EqC V V' ↔ SameT n f k g := by
  have yvv : ∀ {W : Cell} {i : Nat} {x : Int32}, W.slots[i]? = some (.int x) → yv W i = x := fun q => by unfold yv; rw [q]
  rcases h with ⟨rfl, k1, k2⟩ | ⟨rfl, k1, k2, -⟩
  · rcases h' with ⟨-, m1, m2⟩ | ⟨e, -⟩
    · constructor
      · rintro ⟨e1, e2⟩
        refine ⟨by omega, fun j hj => ?_⟩
        have q := e2 j (by omega)
        rw [yvv (k2 j hj).1, yvv (m2 j (by omega)).1] at q
        exact lo8_inj (hf j hj).1 (k2 j hj).2 (hg j (by omega)).1 (m2 j (by omega)).2 q
      · rintro ⟨rfl, e2⟩
        refine ⟨by omega, fun j hj => ?_⟩
        rw [yvv (k2 j (by omega)).1, yvv (m2 j (by omega)).1, e2 j (by omega)]
    · exact absurd e (by decide)
  · rcases h' with ⟨e, -⟩ | ⟨-, m1, m2, -⟩
    · exact absurd e (by decide)
    · constructor
      · rintro ⟨e1, e2⟩
        refine ⟨by omega, fun j hj => ?_⟩
        have q1 := e2 (2 * j) (by omega)
        have q2 := e2 (2 * j + 1) (by omega)
        rw [yvv (k2 j hj).1, yvv (m2 j (by omega)).1] at q1
        rw [yvv (k2 j hj).2, yvv (m2 j (by omega)).2] at q2
        rw [← pair_says (hf j hj).1 (hf j hj).2, ← pair_says (hg j (by omega)).1 (hg j (by omega)).2, q1, q2]
      · rintro ⟨rfl, e2⟩
        refine ⟨by omega, fun i hi => ?_⟩
        rcases Nat.mod_two_eq_zero_or_one i with e | e
        · obtain ⟨j, rfl⟩ : ∃ j, i = 2 * j := ⟨i / 2, by omega⟩
          rw [yvv (k2 j (by omega)).1, yvv (m2 j (by omega)).1, e2 j (by omega)]
        · obtain ⟨j, rfl⟩ : ∃ j, i = 2 * j + 1 := ⟨i / 2, by omega⟩
          rw [yvv (k2 j (by omega)).2, yvv (m2 j (by omega)).2, e2 j (by omega)]
/-- two codings differ: so do the texts -/
theorem Cod.dif {cd cd' : Int32} {n k : Nat} {f g : Nat → Int32} {V V' : Cell} (h : Cod cd n f V) (h' : Cod cd' k g V') (hne : ¬ cd = cd') : ¬ SameT n f k g := by
  rintro ⟨rfl, e⟩
  rcases h with ⟨rfl, -, k2⟩ | ⟨rfl, -, -, j, hj, hw⟩
  · rcases h' with ⟨rfl, -⟩ | ⟨-, -, -, j, hj, hw⟩
    · exact hne rfl
    · exact (k2 j hj).2 (by rw [e j hj]; exact hw)
  · rcases h' with ⟨-, -, m2⟩ | ⟨rfl, -⟩
    · exact (m2 j hj).2 (by rw [← e j hj]; exact hw)
    · exact hne rfl
/-- an object of exactly C is an instance of C -/
theorem cinst {p : Program} {l : Launch} {e : Env} {R : Room} {s : State} {m : MethodId} {args : Array Value} {below : List Frame} {meth : Method} {c : Code} {T : State} {locs : List Loc} {cells slots : Nat} (X : Stand p l e R s m args below meth c T locs cells slots) (hexec : p.tables.exec = Jvm.exec) {own C : String} {index : Nat} (hown : s.vm.findClass own = some m.cls) (hlink : (Cond.classLink own index C).before args s = true) {a : Addr} (hE : Exact C a T)
    {g : JFrame} (hg : g.method = m) {rest : List Value} (hstack : g.stack = .ref a :: rest) (hdg : decode c.code g.pc = .ok (.instanceof index, 3)) :
    ∃ T', Stand p l e R s m args below meth c T' locs cells slots ∧ T'.heap = T.heap ∧ ∀ target, Steps p.tables e below (T'.setTop { g with pc := g.pc + 3, stack := .int 1 :: rest }) target → Steps p.tables e below (T.setTop g) target := by
  obtain ⟨cB, h1, D, h2, h3, h4⟩ := hE
  have h1' : s.vm.findClass C = some cB := by rw [← X.warmed.alike.findClass]; exact h1
  obtain ⟨vm', X', st⟩ := X.instanceofYes hexec hown hlink h2 h4 h1' (by rw [h3]; exact Jvm.Free.SB.assignable_self _ _) hg hstack hdg
  exact ⟨_, X', rfl, st⟩
theorem cself {p : Program} {l : Launch} {e : Env} {R : Room} {s : State} {m : MethodId} {args : Array Value} {below : List Frame} {meth : Method} {c : Code} {T : State} {locs : List Loc} {cells slots : Nat} (X : Stand p l e R s m args below meth c T locs cells slots) (hexec : p.tables.exec = Jvm.exec) {own C : String} {index : Nat} (hown : s.vm.findClass own = some m.cls) (hlink : (Cond.classLink own index C).before args s = true) {a : Addr} (hE : Exact C a T)
    {g : JFrame} (hg : g.method = m) {rest : List Value} (hstack : g.stack = .ref a :: rest) (hdg : decode c.code g.pc = .ok (.checkcast index, 3)) :
    ∃ T', Stand p l e R s m args below meth c T' locs cells slots ∧ T'.heap = T.heap ∧ ∀ target, Steps p.tables e below (T'.setTop { g with pc := g.pc + 3, stack := .ref a :: rest }) target → Steps p.tables e below (T.setTop g) target := by
  obtain ⟨cB, h1, D, h2, h3, h4⟩ := hE
  have h1' : s.vm.findClass C = some cB := by rw [← X.warmed.alike.findClass]; exact h1
  obtain ⟨vm', X', st⟩ := X.checkcastYes hexec hown hlink h2 h4 h1' (by rw [h3]; exact Jvm.Free.SB.assignable_self _ _) hg hstack hdg
  exact ⟨_, X', rfl, fun t h => st t (by rw [← hstack] at h; exact h)⟩
namespace SEq
def yN : MethodName := ⟨"java/lang/String", "equals", "(Ljava/lang/Object;)Z"⟩
abbrev yB : ByteArray := jdk_42_method_66_code
theorem d0 : decode yB 0 = .ok (.aload_n 0, 1) := by decide +kernel
theorem d1 : decode yB 1 = .ok (.aload_n 1, 1) := by decide +kernel
theorem d2 : decode yB 2 = .ok (.if_acmp (.ne) 5, 3) := by decide +kernel
theorem d5 : decode yB 5 = .ok (.iconst 1, 1) := by decide +kernel
theorem d6 : decode yB 6 = .ok (.ireturn, 1) := by decide +kernel
theorem d7 : decode yB 7 = .ok (.aload_n 1, 1) := by decide +kernel
theorem d8 : decode yB 8 = .ok (.instanceof 10, 3) := by decide +kernel
theorem d11 : decode yB 11 = .ok (.ifCond (.eq) 43, 3) := by decide +kernel
theorem d14 : decode yB 14 = .ok (.aload_n 1, 1) := by decide +kernel
theorem d15 : decode yB 15 = .ok (.checkcast 10, 3) := by decide +kernel
theorem d18 : decode yB 18 = .ok (.astore_n 2, 1) := by decide +kernel
theorem d19 : decode yB 19 = .ok (.getstatic 38, 3) := by decide +kernel
theorem d22 : decode yB 22 = .ok (.ifCond (.eq) 14, 3) := by decide +kernel
theorem d25 : decode yB 25 = .ok (.aload_n 0, 1) := by decide +kernel
theorem d26 : decode yB 26 = .ok (.getfield 15, 3) := by decide +kernel
theorem d29 : decode yB 29 = .ok (.aload_n 2, 1) := by decide +kernel
theorem d30 : decode yB 30 = .ok (.getfield 15, 3) := by decide +kernel
theorem d33 : decode yB 33 = .ok (.if_icmp (.ne) 21, 3) := by decide +kernel
theorem d36 : decode yB 36 = .ok (.aload_n 0, 1) := by decide +kernel
theorem d37 : decode yB 37 = .ok (.getfield 9, 3) := by decide +kernel
theorem d40 : decode yB 40 = .ok (.aload_n 2, 1) := by decide +kernel
theorem d41 : decode yB 41 = .ok (.getfield 9, 3) := by decide +kernel
theorem d44 : decode yB 44 = .ok (.invokestatic 541, 3) := by decide +kernel
theorem d47 : decode yB 47 = .ok (.ifCond (.eq) 7, 3) := by decide +kernel
theorem d50 : decode yB 50 = .ok (.iconst 1, 1) := by decide +kernel
theorem d51 : decode yB 51 = .ok (.goto 4, 3) := by decide +kernel
theorem d54 : decode yB 54 = .ok (.iconst 0, 1) := by decide +kernel
theorem d55 : decode yB 55 = .ok (.ireturn, 1) := by decide +kernel
def site : List Cond := [.classLink "java/lang/String" 10 "java/lang/String", .fieldLink "java/lang/String" 38 "java/lang/String" "COMPACT_STRINGS" "Z", .fieldLink "java/lang/String" 15 "java/lang/String" "coder" "B", .fieldLink "java/lang/String" 9 "java/lang/String" "value" "[B", LEq.tab] ++ staticW "java/lang/String" 541 LEq.yN
def tab : Cond := tabOf yN yB 3 (some .boolean) site
def P (x t : Addr) (V : Cell) (cd : Int32) (n : Nat) (f : Nat → Int32) (y t' : Addr) (V' : Cell) (cd' : Int32) (k : Nat) (g : Nat → Int32) (z : Int32) (args : Array Value) (s : State) : Prop := args = #[.ref x, .ref y] ∧ Txt x t V cd n f s ∧ Txt y t' V' cd' k g s ∧ StaticIs s "java/lang/String" "COMPACT_STRINGS" "Z" (.int z) ∧ ¬ z = 0
/-- equals(Object) of two Strings: whether the texts are the same -/
theorem law (l : Launch) (x t : Addr) (V : Cell) (cd : Int32) (n : Nat) (f : Nat → Int32) (y t' : Addr) (V' : Cell) (cd' : Int32) (k : Nat) (g : Nat → Int32) (z : Int32) : Law l yN 2 1 1 14 yB 3 (some .boolean) site (P x t V cd n f y t' V' cd' k g z) (Says01 (SameT n f k g)) [] 0 0 := by
  refine Law.of_walk (plainFor_of_name (by decide +kernel)) (by decide +kernel) (by decide +kernel) (by decide) (fun _ _ h => by rw [h.1]; rfl) (fun _ U U' hal hh h => ⟨h.1, h.2.1.mv hal hh, h.2.2.1.mv hal hh, h.2.2.2.1.there hal hh, h.2.2.2.2⟩) (fun r U U' V V' h1 hal h2 h => Says01.mv r U U' V V' h1 hal h2 h) ?_
  intro p e s m args below meth c s₁ X0 hexec hbytes hml hret hlk hnm hown hh0 W hP
  obtain ⟨rfl, hx, hy, s1, hz⟩ := hP
  have c1 : Steps p.tables e below (s₁.setTop (entryFrame m #[.ref x, .ref y] 3)) (s₁.setTop (mkF m 2 #[.val (.ref x), .val (.ref y), .unset] [.ref y, .ref x])) := Steps.trans (entry rfl) (by
    show Steps p.tables e below (s₁.setTop (mkF m 0 #[.val (.ref x), .val (.ref y), .unset] [])) _
    refine XS.aloadN X0.here hexec rfl (hb hbytes d0) rfl rfl ?_
    refine XS.aloadN X0.here hexec rfl (hb hbytes d1) rfl rfl ?_
    exact Steps.refl _)
  by_cases hxy : x = y
  · have c2 : Steps p.tables e below (s₁.setTop (entryFrame m #[.ref x, .ref y] 3)) (s₁.setTop (mkF m 6 #[.val (.ref x), .val (.ref y), .unset] [.int 1])) := c1.trans (by
      refine acmpNo X0.here hexec rfl (hb hbytes d2) rfl rfl rfl (by simp [acmp, hxy]) ?_
      refine iconstV X0.here hexec rfl 1 (hb hbytes d5) (by decide) ?_
      exact Steps.refl _)
    subst hxy
    have ec : cd = cd' := by
      obtain ⟨D, fd, a1, a2, a3⟩ := hx.2.2.1
      obtain ⟨D', fd', b1, b2, b3⟩ := hy.2.2.1
      cases a1.symm.trans b1
      obtain ⟨q1, q2, q3, q4⟩ := a2.1
      obtain ⟨r1, r2, r3, r4⟩ := b2.1
      cases q4.symm.trans r4
      cases a3.symm.trans b3; rfl
    have et : t = t' := by
      obtain ⟨D, fd, a1, a2, a3⟩ := hx.2.1
      obtain ⟨D', fd', b1, b2, b3⟩ := hy.2.1
      cases a1.symm.trans b1
      obtain ⟨q1, q2, q3, q4⟩ := a2.1
      obtain ⟨r1, r2, r3, r4⟩ := b2.1
      cases q4.symm.trans r4
      cases a3.symm.trans b3; rfl
    subst ec et
    have ev : V = V' := by cases hx.2.2.2.1.1.symm.trans hy.2.2.2.1.1; rfl
    subst ev
    have hs : SameT n f k g := (Cod.eqv hx.2.2.2.2.1 hy.2.2.2.2.1 hx.2.2.2.2.2 hy.2.2.2.2.2).mp ⟨rfl, fun _ _ => rfl⟩
    exact ⟨s₁, some (.int 1), _, _, _, X0, rfl, rfl, rfl, (fun h => by cases h), ⟨1, rfl, hh0, Or.inl ⟨rfl, hs⟩⟩, fun fs hl => c2.trans (X0.ireturnOut hexec hret rfl (Or.inr (Or.inl rfl)) (hb hbytes d6) hl)⟩
  · have c2 : Steps p.tables e below (s₁.setTop (entryFrame m #[.ref x, .ref y] 3)) (s₁.setTop (mkF m 8 #[.val (.ref x), .val (.ref y), .unset] [.ref y])) := c1.trans (by
      refine acmpYes X0.here hexec rfl (pc0 := 2) rfl (hb hbytes d2) rfl rfl rfl (by simp [acmp, hxy]) (by decide) rfl ?_
      refine XS.aloadN X0.here hexec rfl (hb hbytes d7) rfl rfl ?_
      exact Steps.refl _)
    obtain ⟨T3, X3, q3, st3⟩ := cinst X0 hexec hown (wk W (.classLink "java/lang/String" 10 "java/lang/String")) (hy.mv X0.warmed.alike hh0).1 (g := (mkF m 8 #[.val (.ref x), .val (.ref y), .unset] [.ref y])) rfl (rest := []) rfl (hb hbytes d8)
    have hh3 := q3.trans hh0
    have c4 : Steps p.tables e below (s₁.setTop (entryFrame m #[.ref x, .ref y] 3)) (T3.setTop (mkF m 15 #[.val (.ref x), .val (.ref y), .unset] [.ref y])) := (c2.trans (st3 _ (Steps.refl _))).trans (by
      refine XS.ifNo X3.here hexec rfl (hb hbytes d11) rfl (i0_eq_f (by decide)) ?_
      refine XS.aloadN X3.here hexec rfl (hb hbytes d14) rfl rfl ?_
      exact Steps.refl _)
    obtain ⟨T5, X5, q5, st5⟩ := cself X3 hexec hown (wk W (.classLink "java/lang/String" 10 "java/lang/String")) (hy.mv X3.warmed.alike hh3).1 (g := (mkF m 15 #[.val (.ref x), .val (.ref y), .unset] [.ref y])) rfl (rest := []) rfl (hb hbytes d15)
    have hh5 := q5.trans hh3
    have c6 : Steps p.tables e below (s₁.setTop (entryFrame m #[.ref x, .ref y] 3)) (T5.setTop (mkF m 19 #[.val (.ref x), .val (.ref y), .val (.ref y)] [])) := (c4.trans (st5 _ (Steps.refl _))).trans (by
      refine XS.astoreN X5.here hexec rfl (hb hbytes d18) rfl rfl rfl ?_
      exact Steps.refl _)
    obtain ⟨T7, X7, q7, st7⟩ := X5.sget hexec hown (wk W (.fieldLink "java/lang/String" 38 "java/lang/String" "COMPACT_STRINGS" "Z")) s1 (fun _ _ h => by rw [hh5]; exact h) (g := (mkF m 19 #[.val (.ref x), .val (.ref y), .val (.ref y)] [])) rfl (hb hbytes d19)
    have hh7 := q7.trans hh5
    have c8 : Steps p.tables e below (s₁.setTop (entryFrame m #[.ref x, .ref y] 3)) (T7.setTop (mkF m 26 #[.val (.ref x), .val (.ref y), .val (.ref y)] [.ref x])) := (c6.trans (st7 _ (Steps.refl _))).trans (by
      refine XS.ifNo X7.here hexec rfl (hb hbytes d22) rfl (i0_eq_f hz) ?_
      refine XS.aloadN X7.here hexec rfl (hb hbytes d25) rfl rfl ?_
      exact Steps.refl _)
    obtain ⟨T9, X9, q9, st9⟩ := X7.hget hexec hown (wk W (.fieldLink "java/lang/String" 15 "java/lang/String" "coder" "B")) (hx.mv X7.warmed.alike hh7).2.2.1 (g := (mkF m 26 #[.val (.ref x), .val (.ref y), .val (.ref y)] [.ref x])) rfl (rest := []) rfl (hb hbytes d26)
    have hh9 := q9.trans hh7
    have c10 : Steps p.tables e below (s₁.setTop (entryFrame m #[.ref x, .ref y] 3)) (T9.setTop (mkF m 30 #[.val (.ref x), .val (.ref y), .val (.ref y)] [.ref y, .int cd])) := (c8.trans (st9 _ (Steps.refl _))).trans (by
      refine XS.aloadN X9.here hexec rfl (hb hbytes d29) rfl rfl ?_
      exact Steps.refl _)
    obtain ⟨T11, X11, q11, st11⟩ := X9.hget hexec hown (wk W (.fieldLink "java/lang/String" 15 "java/lang/String" "coder" "B")) (hy.mv X9.warmed.alike hh9).2.2.1 (g := (mkF m 30 #[.val (.ref x), .val (.ref y), .val (.ref y)] [.ref y, .int cd])) rfl (rest := [.int cd]) rfl (hb hbytes d30)
    have hh11 := q11.trans hh9
    have c12 : Steps p.tables e below (s₁.setTop (entryFrame m #[.ref x, .ref y] 3)) (T11.setTop (mkF m 33 #[.val (.ref x), .val (.ref y), .val (.ref y)] [.int cd', .int cd])) := c10.trans (st11 _ (Steps.refl _))
    by_cases hcd : cd = cd'
    · subst hcd
      have c13 : Steps p.tables e below (s₁.setTop (entryFrame m #[.ref x, .ref y] 3)) (T11.setTop (mkF m 37 #[.val (.ref x), .val (.ref y), .val (.ref y)] [.ref x])) := c12.trans (by
        refine XS.icmpNo X11.here hexec rfl (hb hbytes d33) rfl (ii_ne_f rfl) ?_
        refine XS.aloadN X11.here hexec rfl (hb hbytes d36) rfl rfl ?_
        exact Steps.refl _)
      obtain ⟨T14, X14, q14, st14⟩ := X11.hget hexec hown (wk W (.fieldLink "java/lang/String" 9 "java/lang/String" "value" "[B")) (hx.mv X11.warmed.alike hh11).2.1 (g := (mkF m 37 #[.val (.ref x), .val (.ref y), .val (.ref y)] [.ref x])) rfl (rest := []) rfl (hb hbytes d37)
      have hh14 := q14.trans hh11
      have c15 : Steps p.tables e below (s₁.setTop (entryFrame m #[.ref x, .ref y] 3)) (T14.setTop (mkF m 41 #[.val (.ref x), .val (.ref y), .val (.ref y)] [.ref y, .ref t])) := (c13.trans (st14 _ (Steps.refl _))).trans (by
        refine XS.aloadN X14.here hexec rfl (hb hbytes d40) rfl rfl ?_
        exact Steps.refl _)
      obtain ⟨T16, X16, q16, st16⟩ := X14.hget hexec hown (wk W (.fieldLink "java/lang/String" 9 "java/lang/String" "value" "[B")) (hy.mv X14.warmed.alike hh14).2.1 (g := (mkF m 41 #[.val (.ref x), .val (.ref y), .val (.ref y)] [.ref y, .ref t])) rfl (rest := [.ref t]) rfl (hb hbytes d41)
      have hh16 := q16.trans hh14
      have c17 : Steps p.tables e below (s₁.setTop (entryFrame m #[.ref x, .ref y] 3)) (T16.setTop (mkF m 44 #[.val (.ref x), .val (.ref y), .val (.ref y)] [.ref t', .ref t])) := c15.trans (st16 _ (Steps.refl _))
      obtain ⟨v18, T18, X18, E18, g18⟩ := X16.callS hexec (LEq.law l t V t' V') hown (wks W (staticW "java/lang/String" 541 LEq.yN)) (wk W LEq.tab) (W := 0) (Nat.le_of_ble_eq_true rfl) (Nat.le_of_ble_eq_true rfl) (Nat.le_refl _) (Nat.le_refl _) (g := (mkF m 44 #[.val (.ref x), .val (.ref y), .val (.ref y)] [.ref t', .ref t])) rfl (by rw [hml]; rfl) c17 (argsL := [.ref t, .ref t']) (rest := []) rfl rfl (by show 2 * 0 + 0 ≤ _; decide) (hb hbytes d44) (⟨rfl, hx.2.2.2.1.mv X16.warmed.alike hh16, hx.2.2.2.2.1.ty, hy.2.2.2.1.mv X16.warmed.alike hh16, hy.2.2.2.2.1.ty⟩)
      obtain ⟨v, rfl, q18, hv⟩ := E18
      have iff := Cod.eqv hx.2.2.2.2.1 hy.2.2.2.2.1 hx.2.2.2.2.2 hy.2.2.2.2.2
      rcases hv with ⟨rfl, he⟩ | ⟨rfl, he⟩
      · have c19 : Steps p.tables e below (s₁.setTop (entryFrame m #[.ref x, .ref y] 3)) (T18.setTop (mkF m 55 #[.val (.ref x), .val (.ref y), .val (.ref y)] [.int 1])) := Steps.trans g18 (by
          refine XS.ifNo X18.here hexec rfl (hb hbytes d47) rfl (i0_eq_f (by decide)) ?_
          refine iconstV X18.here hexec rfl 1 (hb hbytes d50) (by decide) ?_
          refine XS.goto X18.here hexec rfl (pc0 := 51) rfl (hb hbytes d51) (by decide) rfl ?_
          exact Steps.refl _)
        exact ⟨T18, some (.int 1), _, _, _, X18, rfl, rfl, rfl, (fun h => by cases h), ⟨1, rfl, q18.trans hh16, Or.inl ⟨rfl, iff.mp he⟩⟩, fun fs hl => c19.trans (X18.ireturnOut hexec hret rfl (Or.inr (Or.inl rfl)) (hb hbytes d55) hl)⟩
      · have c19 : Steps p.tables e below (s₁.setTop (entryFrame m #[.ref x, .ref y] 3)) (T18.setTop (mkF m 55 #[.val (.ref x), .val (.ref y), .val (.ref y)] [.int 0])) := Steps.trans g18 (by
          refine XS.ifYes X18.here hexec rfl (pc0 := 47) rfl (hb hbytes d47) rfl (i0_eq_t rfl) (by decide) rfl ?_
          refine iconstV X18.here hexec rfl 0 (hb hbytes d54) (by decide) ?_
          exact Steps.refl _)
        exact ⟨T18, some (.int 0), _, _, _, X18, rfl, rfl, rfl, (fun h => by cases h), ⟨0, rfl, q18.trans hh16, Or.inr ⟨rfl, fun q => he (iff.mpr q)⟩⟩, fun fs hl => c19.trans (X18.ireturnOut hexec hret rfl (Or.inr (Or.inl rfl)) (hb hbytes d55) hl)⟩
    · have c13 : Steps p.tables e below (s₁.setTop (entryFrame m #[.ref x, .ref y] 3)) (T11.setTop (mkF m 55 #[.val (.ref x), .val (.ref y), .val (.ref y)] [.int 0])) := c12.trans (by
        refine XS.icmpYes X11.here hexec rfl (pc0 := 33) rfl (hb hbytes d33) rfl (ii_ne_t hcd) (by decide) rfl ?_
        refine iconstV X11.here hexec rfl 0 (hb hbytes d54) (by decide) ?_
        exact Steps.refl _)
      exact ⟨T11, some (.int 0), _, _, _, X11, rfl, rfl, rfl, (fun h => by cases h), ⟨0, rfl, hh11, Or.inr ⟨rfl, Cod.dif hx.2.2.2.2.1 hy.2.2.2.2.1 hcd⟩⟩, fun fs hl => c13.trans (X11.ireturnOut hexec hret rfl (Or.inr (Or.inl rfl)) (hb hbytes d55) hl)⟩
theorem pays {l : Launch} {R : Room} {p : Program} {e : Env} {below : List Frame} {s : State} {sargs : Array Value} {len W : Nat} (x t : Addr) (V : Cell) (cd : Int32) (n : Nat) (f : Nat → Int32) (y t' : Addr) (V' : Cell) (cd' : Int32) (k : Nat) (g : Nat → Int32) (z : Int32) (htab : tab.before sargs s = true) (hfr : 2 ≤ R.frames) (hlo : W + 28 ≤ R.locals) :
    Back l R p e below s sargs yN len W (fun A₁ a₁ => A₁.cells + 0 ≤ R.cells ∧ A₁.slots + 0 ≤ R.slots ∧ P x t V cd n f y t' V' cd' k g z a₁ A₁.U) (fun A₁ _ v₁ B₁ => Says01 (SameT n f k g) v₁ A₁.U B₁.U ∧ B₁.locs = A₁.locs ++ [] ∧ B₁.cells = A₁.cells + 0 ∧ B₁.slots = A₁.slots + 0) :=
  (law l x t V cd n f y t' V' cd' k g z).pays htab hfr (by omega)
end SEq
end StrChars
namespace StrChars.Road
open Jvm Sem ClassFile Op Lib Jvm.Stand Jvm.Free Jvm.Free.XT
open Jvm.Lib.Cold (StaticIs)
/-- the words of String.equals(Object) -/
abbrev wordsEq : List Jvm.Cond := [.code SEq.yN SEq.yB 3 (some .boolean), .initialized ST, .classLink ST 10 ST, .fieldLink ST 38 ST "COMPACT_STRINGS" "Z", .fieldLink ST 15 ST "coder" "B", .fieldLink ST 9 ST "value" "[B", .methodLink ST 541 LEq.yN, .static LEq.yN, .code LEq.yN LEq.yB 3 (some .boolean), .initialized "java/lang/StringLatin1"]
theorem tabEq_of {a : Array Value} {s : State} (h : ∀ w ∈ wordsEq, w.before a s = true) : SEq.tab.before a s = true := by
  have hl : LEq.tab.before a s = true := unparts (wk h (.code LEq.yN LEq.yB 3 (some .boolean))) (wks h (.initialized LEq.yN.cls :: LEq.site))
  have q := consq hl h
  exact unparts (wk q (.code SEq.yN SEq.yB 3 (some .boolean))) (wks q (.initialized SEq.yN.cls :: SEq.site))
theorem movedEq {Z s : State} {a0 args : Array Value} (hZ : Z.Warmed39 s.vm) (hw : ∀ d ∈ wordsEq, d.before a0 Z = true) : ∀ d ∈ wordsEq, d.before args s = true := fun d hd => by
  have t : ∀ d ∈ wordsEq, (d.onTables && d.keepsFace) = true := by decide +kernel
  exact RoadKit.mv hZ (hw d hd) (t d hd)
/-- the road's facts of a String, as the laws ask it -/
theorem txt_of {Z U : State} {a0 : Array Value} {kI : Nat} (wi : (Jvm.Cond.instantiable ST kI).before a0 Z = true) (al : Z.vm.Alike U.vm) {x t : Addr} {kb : ClassId} {cs : List Int32} {cd N2 : Int32} {vs : List Value} (E : RoadKit.Exa Z U.heap x ST) (V : RoadKit.Fld Z U.heap x ST "value" "[B" (.ref t)) (C : RoadKit.Fld Z U.heap x ST "coder" "B" (.int cd)) (K : RoadKit.Arv Z U.heap t kb .byte N2 vs (.int 0)) (hc : CodA cs cd N2 vs) (hb : ∀ c ∈ cs, ¬ c < 0 ∧ ¬ (65535 : Int32) < c) (l2 : cs.length ≤ 4000) :
    ∃ A, Txt x t A cd cs.length (fun j => cs.getD j 0) U := by
  obtain ⟨A, K1, K2, K3, K4, K5, K6⟩ := K
  have hcod := hc.cod (by omega) K3 K5
  obtain ⟨D, fV, fC, hB, F1, F2, g1, g2, -, -⟩ := strObj wi al E V C
  exact ⟨A, ⟨_, hB.2.2.1, D, hB.1, rfl, by cases q : D.vm <;> first | rfl | exact absurd q (hB.2.1.2 _)⟩, Has.of hB F1 g1, Has.of hB F2 g2, ⟨K1.1, State.isArrayOf_alike al K1.2.1, K1.2.2, by rcases hcod with ⟨-, q, -⟩ | ⟨-, q, -⟩ <;> omega⟩, hcod, fun j hj => by
    have e : cs.getD j 0 = cs[j] := by simp [List.getD_eq_getElem?_getD, hj]
    show ¬ cs.getD j 0 < 0 ∧ ¬ 65535 < cs.getD j 0
    rw [e]; exact hb _ (List.getElem_mem _)⟩
theorem same_list (cs ds : List Int32) : SameT cs.length (fun j => cs.getD j 0) ds.length (fun j => ds.getD j 0) ↔ cs = ds := by
  constructor
  · rintro ⟨e, q⟩
    refine List.ext_getElem e fun j h1 h2 => ?_
    have := q j h1
    simpa [List.getD_eq_getElem?_getD, h1, h2] using this
  · rintro rfl
    exact ⟨rfl, fun _ _ => rfl⟩
/-- **equals(Object) OF TWO SUCH STRINGS**: 1 just where the chars are the same -/
theorem eqW {p : Program} {l : Launch} {e : Env} {R : Room} {s : State} {args : Array Value} {below : List Frame} {len W : Nat} {Z : State} {a0 : Array Value} {h : Heap} (hZ : Z.Warmed39 s.vm) (hw : ∀ d ∈ wordsEq, d.before a0 Z = true) {kI : Nat} (wi : (Jvm.Cond.instantiable ST kI).before a0 Z = true)
    {x t : Addr} {kb : ClassId} {cs : List Int32} {cd N2 : Int32} {vs : List Value} (E : RoadKit.Exa Z h x ST) (V : RoadKit.Fld Z h x ST "value" "[B" (.ref t)) (C : RoadKit.Fld Z h x ST "coder" "B" (.int cd)) (K : RoadKit.Arv Z h t kb .byte N2 vs (.int 0)) (hc : CodA cs cd N2 vs) (hb : ∀ c ∈ cs, ¬ c < 0 ∧ ¬ (65535 : Int32) < c) (l2 : cs.length ≤ 4000)
    {y t' : Addr} {kb' : ClassId} {ds : List Int32} {cd' N2' : Int32} {vs' : List Value} (E' : RoadKit.Exa Z h y ST) (V' : RoadKit.Fld Z h y ST "value" "[B" (.ref t')) (C' : RoadKit.Fld Z h y ST "coder" "B" (.int cd')) (K' : RoadKit.Arv Z h t' kb' .byte N2' vs' (.int 0)) (hc' : CodA ds cd' N2' vs') (hb' : ∀ c ∈ ds, ¬ c < 0 ∧ ¬ (65535 : Int32) < c) (l2' : ds.length ≤ 4000)
    {z : Int32} (S : RoadKit.Sta Z h ST "COMPACT_STRINGS" "Z" (.int z)) (hz : ¬ z = 0) (hfr : 2 ≤ R.frames) (hlo : W + 28 ≤ R.locals) :
    Back l R p e below s args (⟨"java/lang/String", "equals", "(Ljava/lang/Object;)Z"⟩ : MethodName) len W (fun P a => a = #[.ref x, .ref y] ∧ P.U.heap = h ∧ P.cells + 0 ≤ R.cells ∧ P.slots + 0 ≤ R.slots)
      (fun P _ v B => ∃ L, (((v = some (.int 1) ∧ cs = ds) ∨ (v = some (.int 0) ∧ ¬ cs = ds)) ∧ L = [] ∧ B.U.heap = h) ∧ B.locs = P.locs ++ L ∧ B.cells = P.cells + 0 ∧ B.slots = P.slots + 0) := by
  intro m meth c P g ig mk a X hg hsize hdg hW hn hp'
  obtain ⟨rfl, rfl, r1, r2⟩ := hp'
  have al : Z.vm.Alike P.U.vm := hZ.alike.trans X.warmed.alike
  obtain ⟨A, hx⟩ := txt_of wi al E V C K hc hb l2
  obtain ⟨A', hy⟩ := txt_of wi al E' V' C' K' hc' hb' l2'
  obtain ⟨v, B, X', ⟨⟨w, hv, hh, hq⟩, hl, hk, hs⟩, st⟩ := SEq.pays x t A cd cs.length (fun j => cs.getD j 0) y t' A' cd' ds.length (fun j => ds.getD j 0) z (tabEq_of (movedEq hZ hw)) hfr hlo m meth c P g ig mk _ X hg hsize hdg hW hn ⟨r1, r2, rfl, hx, hy, sta_is al S, hz⟩
  refine ⟨v, B, X', ⟨[], ⟨?_, rfl, hh⟩, hl, hk, hs⟩, st⟩
  rcases hq with ⟨rfl, q⟩ | ⟨rfl, q⟩
  · exact Or.inl ⟨hv, (same_list cs ds).mp q⟩
  · exact Or.inr ⟨hv, fun e => q ((same_list cs ds).mpr e)⟩
end StrChars.Road
end Jvm.Pilot.@@N@@
namespace Jvm.Pilot.@@N@@
open Jvm Jvm.ClassFile Sem Op Lib Jvm.Free Jvm.Stand Jvm.LawKit Jvm.RoadKit Bundle Jvm.Pilot.@@N@@.Jvm.D
section OwnPre
def Gl (tb : Tables) (e : Env) (below : List Frame) (P : State → Outcome → Prop) (T : State) (m : MethodId) (pc : Nat) (L : Array Slot) (S : List Value) : Prop := ∃ s₂ o, Steps tb e below (T.setTop (mkF m pc L S)) s₂ ∧ P s₂ o
def Wk (p : Program) (l : Launch) (e : Env) (R : Room) (s : State) (m : MethodId) (args : Array Value) (below : List Frame) (meth : Method) (c : Code) (own : String) (Z : State) (hb : Heap) (ws : List Addr) (I : Heap → Prop) (T : State) (h : Heap) (locs : List Loc) (cells slots : Nat) : Prop :=
  Stand p l e R s m args below meth c T locs cells slots ∧ p.tables.exec = Jvm.exec ∧ T.heap = h ∧ Z.Warmed39 s.vm ∧ s.vm.findClass own = some m.cls ∧ Old Z Z.heap.size h ∧ Fr Z.heap.size locs ∧ Keep hb h ws ∧ I h
variable {p : Program} {l : Launch} {e : Env} {R : Room} {s : State} {m : MethodId} {args : Array Value} {below : List Frame} {meth : Method} {c : Code} {T : State} {locs : List Loc} {cells slots cells' slots' : Nat} {Z : State} {a0 : Array Value} {h hb : Heap} {ws : List Addr} {own : String} {I : Heap → Prop} {P : State → Outcome → Prop} {pc pc' : Nat} {L L' : Array Slot} {S : List Value}
theorem Gl.st {tb : Tables} {T T' : State} {S' : List Value} (k : ∀ target, Steps tb e below (T'.setTop (mkF m pc' L' S')) target → Steps tb e below (T.setTop (mkF m pc L S)) target) (G : Gl tb e below P T' m pc' L' S') : Gl tb e below P T m pc L S := by
  obtain ⟨s2, o, h1, h2⟩ := G
  exact ⟨s2, o, k _ h1, h2⟩
theorem Gl.tr {tb : Tables} {T T' : State} {S' : List Value} (k : Steps tb e below (T.setTop (mkF m pc L S)) (T'.setTop (mkF m pc' L' S'))) (G : Gl tb e below P T' m pc' L' S') : Gl tb e below P T m pc L S := by
  obtain ⟨s2, o, h1, h2⟩ := G
  exact ⟨s2, o, k.trans h1, h2⟩
theorem Wk.ox (W : Wk p l e R s m args below meth c own Z hb ws I T h locs cells slots) : Ext Z.heap h := W.2.2.2.2.2.1.2
theorem Wk.old (W : Wk p l e R s m args below meth c own Z hb ws I T h locs cells slots) : Old Z Z.heap.size h := W.2.2.2.2.2.1
theorem Wk.keep (W : Wk p l e R s m args below meth c own Z hb ws I T h locs cells slots) : Keep hb h ws := W.2.2.2.2.2.2.2.1
theorem Wk.zs (W : Wk p l e R s m args below meth c own Z hb ws I T h locs cells slots) : Z.heap.size ≤ h.size := W.ox.1
theorem own_ne {x b n : Nat} (h1 : x < n) (h2 : n ≤ b) : x ≠ b := Nat.ne_of_lt (Nat.lt_of_lt_of_le h1 h2)
theorem o_iloadN (W : Wk p l e R s m args below meth c own Z hb ws I T h locs cells slots) {k : Fin 4} {v : Int32} (hd : decode c.code pc = .ok (.iload_n k, 1)) (hl : L[k.val]? = some (.val (.int v))) (hp : pc + 1 = pc') (K : Gl p.tables e below P T m pc' L (.int v :: S)) : Gl p.tables e below P T m pc L S := by
  subst hp; exact Gl.st (fun _ q => XS.iloadN W.1.here W.2.1 rfl hd hl q) K
theorem o_iload (W : Wk p l e R s m args below meth c own Z hb ws I T h locs cells slots) {k : Nat} {v : Int32} (hd : decode c.code pc = .ok (.iload k, 2)) (hl : L[k]? = some (.val (.int v))) (hp : pc + 2 = pc') (K : Gl p.tables e below P T m pc' L (.int v :: S)) : Gl p.tables e below P T m pc L S := by
  subst hp; exact Gl.st (fun _ q => XS.iload W.1.here W.2.1 rfl hd hl q) K
theorem o_istoreN (W : Wk p l e R s m args below meth c own Z hb ws I T h locs cells slots) {k : Fin 4} {v : Int32} {L' : Array Slot} (hd : decode c.code pc = .ok (.istore_n k, 1)) (hl : storeLocals L k.val (.int v) = some L') (hp : pc + 1 = pc') (K : Gl p.tables e below P T m pc' L' S) : Gl p.tables e below P T m pc L (.int v :: S) := by
  subst hp; exact Gl.st (fun _ q => XS.istoreN W.1.here W.2.1 rfl hd rfl hl q) K
theorem o_istore (W : Wk p l e R s m args below meth c own Z hb ws I T h locs cells slots) {k : Nat} {v : Int32} {L' : Array Slot} (hd : decode c.code pc = .ok (.istore k, 2)) (hl : storeLocals L k (.int v) = some L') (hp : pc + 2 = pc') (K : Gl p.tables e below P T m pc' L' S) : Gl p.tables e below P T m pc L (.int v :: S) := by
  subst hp; exact Gl.st (fun _ q => XS.istore W.1.here W.2.1 rfl hd rfl hl q) K
theorem o_aloadN (W : Wk p l e R s m args below meth c own Z hb ws I T h locs cells slots) {k : Fin 4} {v : Value} (hd : decode c.code pc = .ok (.aload_n k, 1)) (hl : L[k.val]? = some (.val v)) (hv : v.isRef = true) (hp : pc + 1 = pc') (K : Gl p.tables e below P T m pc' L (v :: S)) : Gl p.tables e below P T m pc L S := by
  subst hp; exact Gl.st (fun _ q => XS.aloadN W.1.here W.2.1 rfl hd hl hv q) K
theorem o_aload (W : Wk p l e R s m args below meth c own Z hb ws I T h locs cells slots) {k : Nat} {v : Value} (hd : decode c.code pc = .ok (.aload k, 2)) (hl : L[k]? = some (.val v)) (hv : v.isRef = true) (hp : pc + 2 = pc') (K : Gl p.tables e below P T m pc' L (v :: S)) : Gl p.tables e below P T m pc L S := by
  subst hp; exact Gl.st (fun _ q => XS.aload W.1.here W.2.1 rfl hd hl hv q) K
theorem o_astoreN (W : Wk p l e R s m args below meth c own Z hb ws I T h locs cells slots) {k : Fin 4} {v : Value} {L' : Array Slot} (hd : decode c.code pc = .ok (.astore_n k, 1)) (hv : v.isRef = true) (hl : storeLocals L k.val v = some L') (hp : pc + 1 = pc') (K : Gl p.tables e below P T m pc' L' S) : Gl p.tables e below P T m pc L (v :: S) := by
  subst hp; exact Gl.st (fun _ q => XS.astoreN W.1.here W.2.1 rfl hd rfl hv hl q) K
theorem o_astore (W : Wk p l e R s m args below meth c own Z hb ws I T h locs cells slots) {k : Nat} {v : Value} {L' : Array Slot} (hd : decode c.code pc = .ok (.astore k, 2)) (hv : v.isRef = true) (hl : storeLocals L k v = some L') (hp : pc + 2 = pc') (K : Gl p.tables e below P T m pc' L' S) : Gl p.tables e below P T m pc L (v :: S) := by
  subst hp; exact Gl.st (fun _ q => XS.astore W.1.here W.2.1 rfl hd rfl hv hl q) K
theorem o_iconst (W : Wk p l e R s m args below meth c own Z hb ws I T h locs cells slots) {i : Int} {v : Int32} (hd : decode c.code pc = .ok (.iconst i, 1)) (hv : Int32.ofInt i = v) (hp : pc + 1 = pc') (K : Gl p.tables e below P T m pc' L (.int v :: S)) : Gl p.tables e below P T m pc L S := by
  subst hp; exact Gl.st (fun _ q => XT.iconstV W.1.here W.2.1 rfl v hd hv q) K
theorem o_bipush (W : Wk p l e R s m args below meth c own Z hb ws I T h locs cells slots) {i : Int} {v : Int32} (hd : decode c.code pc = .ok (.bipush i, 2)) (hv : (Int8.ofInt i).toInt32 = v) (hp : pc + 2 = pc') (K : Gl p.tables e below P T m pc' L (.int v :: S)) : Gl p.tables e below P T m pc L S := by
  subst hp; exact Gl.st (fun _ q => XT.bipushV W.1.here W.2.1 rfl v hd hv q) K
theorem o_sipush (W : Wk p l e R s m args below meth c own Z hb ws I T h locs cells slots) {i : Int} {v : Int32} (hd : decode c.code pc = .ok (.sipush i, 3)) (hv : (Int16.ofInt i).toInt32 = v) (hp : pc + 3 = pc') (K : Gl p.tables e below P T m pc' L (.int v :: S)) : Gl p.tables e below P T m pc L S := by
  subst hp; exact Gl.st (fun _ q => XT.sipushV W.1.here W.2.1 rfl v hd hv q) K
theorem o_aconstNull (W : Wk p l e R s m args below meth c own Z hb ws I T h locs cells slots)  (hd : decode c.code pc = .ok (.aconst_null, 1)) (hp : pc + 1 = pc') (K : Gl p.tables e below P T m pc' L (.null :: S)) : Gl p.tables e below P T m pc L S := by
  subst hp; exact Gl.st (fun _ q => XS.aconstNull W.1.here W.2.1 rfl hd q) K
theorem o_iand (W : Wk p l e R s m args below meth c own Z hb ws I T h locs cells slots) {x y v : Int32} (hd : decode c.code pc = .ok (.iand, 1)) (hv : x &&& y = v) (hp : pc + 1 = pc') (K : Gl p.tables e below P T m pc' L (.int v :: S)) : Gl p.tables e below P T m pc L (.int y :: .int x :: S) := by
  subst hp; exact Gl.st (fun _ q => XS.iand W.1.here W.2.1 rfl hd rfl (by rw [hv]; exact q)) K
theorem o_iushr (W : Wk p l e R s m args below meth c own Z hb ws I T h locs cells slots) {x v : Int32} {y : Int32} (hd : decode c.code pc = .ok (.iushr, 1)) (hv : (x.toUInt32 >>> (y &&& 31).toUInt32).toInt32 = v) (hp : pc + 1 = pc') (K : Gl p.tables e below P T m pc' L (.int v :: S)) : Gl p.tables e below P T m pc L (.int y :: .int x :: S) := by
  subst hp; exact Gl.st (fun _ q => XS.iushr W.1.here W.2.1 rfl hd rfl (by rw [hv]; exact q)) K
theorem o_i2c (W : Wk p l e R s m args below meth c own Z hb ws I T h locs cells slots) {x : Int32} {v : Int32} (hd : decode c.code pc = .ok (.i2c, 1)) (hv : x.toUInt32.toUInt16.toUInt32.toInt32 = v) (hp : pc + 1 = pc') (K : Gl p.tables e below P T m pc' L (.int v :: S)) : Gl p.tables e below P T m pc L (.int x :: S) := by
  subst hp; exact Gl.st (fun _ q => XS.i2c W.1.here W.2.1 rfl hd rfl (by rw [hv]; exact q)) K
theorem o_irem (W : Wk p l e R s m args below meth c own Z hb ws I T h locs cells slots) {x y v : Int32} (hd : decode c.code pc = .ok (.irem, 1)) (hy : y ≠ 0) (hv : x % y = v) (hp : pc + 1 = pc') (K : Gl p.tables e below P T m pc' L (.int v :: S)) : Gl p.tables e below P T m pc L (.int y :: .int x :: S) := by
  subst hp; exact Gl.st (fun _ q => iremM W.1 W.2.1 rfl hd rfl hy (by rw [hv]; exact q)) K
theorem o_iinc (W : Wk p l e R s m args below meth c own Z hb ws I T h locs cells slots) {k : Nat} {i : Int} {x v : Int32} {L' : Array Slot} (hd : decode c.code pc = .ok (.iinc k i, 3)) (hl : L[k]? = some (.val (.int x))) (hv : x + Int32.ofInt i = v) (hl' : storeLocals L k (.int v) = some L') (hp : pc + 3 = pc') (K : Gl p.tables e below P T m pc' L' S) : Gl p.tables e below P T m pc L S := by
  subst hp; exact Gl.st (fun _ q => XS.iinc W.1.here W.2.1 rfl hd hl (by rw [hv]; exact hl') q) K
theorem o_dup (W : Wk p l e R s m args below meth c own Z hb ws I T h locs cells slots) {x : Value} (hd : decode c.code pc = .ok (.dup, 1)) (hc : x.category = 1) (hp : pc + 1 = pc') (K : Gl p.tables e below P T m pc' L (x :: x :: S)) : Gl p.tables e below P T m pc L (x :: S) := by
  subst hp; exact Gl.st (fun _ q => XS.dup W.1.here W.2.1 rfl hd rfl hc q) K
theorem o_goto (W : Wk p l e R s m args below meth c own Z hb ws I T h locs cells slots) {o : Int} (hd : decode c.code pc = .ok (.goto o, 3)) (ho : 0 ≤ (pc : Int) + o) (hp : ((pc : Int) + o).toNat = pc') (K : Gl p.tables e below P T m pc' L S) : Gl p.tables e below P T m pc L S := by
  exact Gl.st (fun _ q => XS.goto W.1.here W.2.1 rfl (pc0 := pc) rfl hd ho hp q) K
theorem o_ifY (W : Wk p l e R s m args below meth c own Z hb ws I T h locs cells slots) {o : Int} {cd : ClassFile.Cond} {x : Int32} (hd : decode c.code pc = .ok (.ifCond cd o, 3)) (hc : ifCond.holds cd x = true) (ho : 0 ≤ (pc : Int) + o) (hp : ((pc : Int) + o).toNat = pc') (K : Gl p.tables e below P T m pc' L S) : Gl p.tables e below P T m pc L (.int x :: S) := by
  exact Gl.st (fun _ q => XS.ifYes W.1.here W.2.1 rfl (pc0 := pc) rfl hd rfl hc ho hp q) K
theorem o_ifN (W : Wk p l e R s m args below meth c own Z hb ws I T h locs cells slots) {o : Int} {cd : ClassFile.Cond} {x : Int32} (hd : decode c.code pc = .ok (.ifCond cd o, 3)) (hc : ifCond.holds cd x = false) (hp : pc + 3 = pc') (K : Gl p.tables e below P T m pc' L S) : Gl p.tables e below P T m pc L (.int x :: S) := by
  subst hp; exact Gl.st (fun _ q => XS.ifNo W.1.here W.2.1 rfl hd rfl hc q) K
theorem o_icmpY (W : Wk p l e R s m args below meth c own Z hb ws I T h locs cells slots) {o : Int} {cd : ClassFile.Cond} {x y : Int32} (hd : decode c.code pc = .ok (.if_icmp cd o, 3)) (hc : if_icmp.holds cd x y = true) (ho : 0 ≤ (pc : Int) + o) (hp : ((pc : Int) + o).toNat = pc') (K : Gl p.tables e below P T m pc' L S) : Gl p.tables e below P T m pc L (.int y :: .int x :: S) := by
  exact Gl.st (fun _ q => XS.icmpYes W.1.here W.2.1 rfl (pc0 := pc) rfl hd rfl hc ho hp q) K
theorem o_icmpN (W : Wk p l e R s m args below meth c own Z hb ws I T h locs cells slots) {o : Int} {cd : ClassFile.Cond} {x y : Int32} (hd : decode c.code pc = .ok (.if_icmp cd o, 3)) (hc : if_icmp.holds cd x y = false) (hp : pc + 3 = pc') (K : Gl p.tables e below P T m pc' L S) : Gl p.tables e below P T m pc L (.int y :: .int x :: S) := by
  subst hp; exact Gl.st (fun _ q => XS.icmpNo W.1.here W.2.1 rfl hd rfl hc q) K
theorem o_acmpY (W : Wk p l e R s m args below meth c own Z hb ws I T h locs cells slots) {o : Int} {cd : ClassFile.ACond} {x y : Value} (hd : decode c.code pc = .ok (.if_acmp cd o, 3)) (h1 : x.isRef = true) (h2 : y.isRef = true) (hc : XT.acmp cd x y = true) (ho : 0 ≤ (pc : Int) + o) (hp : ((pc : Int) + o).toNat = pc') (K : Gl p.tables e below P T m pc' L S) : Gl p.tables e below P T m pc L (y :: x :: S) := by
  exact Gl.st (fun _ q => XT.acmpYes W.1.here W.2.1 rfl (pc0 := pc) rfl hd rfl h1 h2 hc ho hp q) K
theorem o_acmpN (W : Wk p l e R s m args below meth c own Z hb ws I T h locs cells slots) {o : Int} {cd : ClassFile.ACond} {x y : Value} (hd : decode c.code pc = .ok (.if_acmp cd o, 3)) (h1 : x.isRef = true) (h2 : y.isRef = true) (hc : XT.acmp cd x y = false) (hp : pc + 3 = pc') (K : Gl p.tables e below P T m pc' L S) : Gl p.tables e below P T m pc L (y :: x :: S) := by
  subst hp; exact Gl.st (fun _ q => XT.acmpNo W.1.here W.2.1 rfl hd rfl h1 h2 hc q) K
theorem o_getF (W : Wk p l e R s m args below meth c own Z hb ws I T h locs cells slots) {R0 O n d : String} {index : Nat} (w : (Cond.fieldLink own index R0 n d).before a0 Z = true) (via : Via Z R0 O n d) {a : Addr} {v : Value} (F : Fld Z h a O n d v) (hd : decode c.code pc = .ok (.getfield index, 3)) (hp : pc + 3 = pc')
    (K : ∀ T', Wk p l e R s m args below meth c own Z hb ws I T' h locs cells slots → Gl p.tables e below P T' m pc' L (v :: S)) : Gl p.tables e below P T m pc L (.ref a :: S) := by
  subst hp
  obtain ⟨X, hx, eT, hZ, ho, r⟩ := W
  obtain ⟨T', X', e', st⟩ := getF X hx hZ ho (host := "") (Or.inl w) via eT F (g := mkF m pc L (.ref a :: S)) rfl rfl hd
  exact Gl.st st (K T' ⟨X', hx, e', hZ, ho, r⟩)
theorem o_getS (W : Wk p l e R s m args below meth c own Z hb ws I T h locs cells slots) {R0 O n d : String} {index : Nat} (w : (Cond.fieldLink own index R0 n d).before a0 Z = true) (via : Via Z R0 O n d) {v : Value} (F : Sta Z h O n d v) (hd : decode c.code pc = .ok (.getstatic index, 3)) (hp : pc + 3 = pc')
    (K : ∀ T', Wk p l e R s m args below meth c own Z hb ws I T' h locs cells slots → Gl p.tables e below P T' m pc' L (v :: S)) : Gl p.tables e below P T m pc L S := by
  subst hp
  obtain ⟨X, hx, eT, hZ, ho, r⟩ := W
  obtain ⟨T', X', e', st⟩ := getS (host := "") X hx hZ ho w via eT F (g := mkF m pc L S) rfl hd
  exact Gl.st st (K T' ⟨X', hx, e', hZ, ho, r⟩)
theorem o_new (W : Wk p l e R s m args below meth c own Z hb ws I T h locs cells slots) {C : String} {index n : Nat} (w : (Cond.classLink own index C).before a0 Z = true) (wi : (Cond.instantiable C n).before a0 Z = true) (wz : (Cond.initialized C).before a0 Z = true) (hI : ∀ h', Ext h h' → I h')
    (hd : decode c.code pc = .ok (.new index, 3)) (hp : pc + 3 = pc') (hc' : cells + 1 = cells') (hs' : slots + n = slots') (hc : cells' ≤ R.cells) (hs : slots' ≤ R.slots)
    (K : ∀ b T' h', Wk p l e R s m args below meth c own Z hb ws I T' h' locs cells' slots' → Ext h h' → h.size ≤ b → Z.heap.size ≤ b → hb.size ≤ b → Exa Z h' b C → (∀ {O nm d : String} {ty : FieldType}, Laid Z a0 C O nm d → parseFieldDescriptor d = some ty → Fld Z h' b O nm d (defaultValue ty)) → Gl p.tables e below P T' m pc' L (.ref b :: S)) : Gl p.tables e below P T m pc L S := by
  subst hp hc' hs'
  obtain ⟨X, hx, eT, hZ, ho, o, fr, kp, i⟩ := W
  obtain ⟨T', h', X', e', E, A, D, -, st⟩ := newO X hx hZ ho w wi wz eT (g := mkF m pc L S) rfl hd hc hs
  exact Gl.st st (K _ T' h' ⟨X', hx, e', hZ, ho, o.ext E, fr, kp.ext E, hI _ E⟩ E (Nat.le_refl _) o.2.1 kp.1 A D)
theorem o_newP (W : Wk p l e R s m args below meth c own Z hb ws I T h locs cells slots) {aty : ArrayType} (w : (Cond.arrayClass (newarray.typeOf aty)).before a0 Z = true) (hI : ∀ h', Ext h h' → I h') {n : Int32} (hn : ¬ n < 0) {cap : Nat} (hcap : n.toNatClampNeg ≤ cap) (hb8 : cap * 8 ≤ 536870912)
    (hd : decode c.code pc = .ok (.newarray aty, 2)) (hp : pc + 2 = pc') (hc' : cells + 1 = cells') (hs' : slots + cap = slots') (hc : cells' ≤ R.cells) (hs : slots' ≤ R.slots) {vs : List Value} {dv : Value} (hdv : defaultValue (newarray.typeOf aty) = dv) (hv : vs = List.replicate vs.length dv)
    (K : ∀ b T' h' k, Wk p l e R s m args below meth c own Z hb ws I T' h' locs cells' slots' → Ext h h' → h.size ≤ b → Z.heap.size ≤ b → hb.size ≤ b → Arv Z h' b k (newarray.typeOf aty) n vs dv → Gl p.tables e below P T' m pc' L (.ref b :: S)) : Gl p.tables e below P T m pc L (.int n :: S) := by
  subst hp hc' hs' hdv
  obtain ⟨X, hx, eT, hZ, ho, o, fr, kp, i⟩ := W
  obtain ⟨T', h', k, X', e', E, A, st⟩ := newP X hx hZ w eT (g := mkF m pc L (.int n :: S)) rfl hd rfl hn hcap hb8 hc hs
  exact Gl.st st (K _ T' h' k ⟨X', hx, e', hZ, ho, o.ext E, fr, kp.ext E, hI _ E⟩ E (Nat.le_refl _) o.2.1 kp.1 ((Arv.new A hn).pad (by rw [hv]; exact pad_rep [] _ _)))
theorem o_len (W : Wk p l e R s m args below meth c own Z hb ws I T h locs cells slots) {a : Addr} {k : ClassId} {ty : FieldType} {z : Int32} {vs : List Value} {dv : Value} (V : Arv Z h a k ty z vs dv) (hd : decode c.code pc = .ok (.arraylength, 1)) (hp : pc + 1 = pc')
    (K : Gl p.tables e below P T m pc' L (.int z :: S)) : Gl p.tables e below P T m pc L (.ref a :: S) := by
  subst hp
  obtain ⟨X, hx, eT, hZ, ho, r⟩ := W
  obtain ⟨cl, A, -, Sz, N, -⟩ := V
  refine Gl.st (X.arraylength hx (by rw [eT]; exact A.1) (State.isArrayOf_alike hZ.alike A.2.1) (g := mkF m pc L (.ref a :: S)) rfl rfl hd) ?_
  rw [len_of Sz N]; exact K
theorem own_inb {z j : Int32} {c : Cell} {i : Nat} (Sz : c.slots.size = z.toNatClampNeg) (hj : j.toNatClampNeg = i) (hj0 : ¬ j < 0) (hi : i < z.toNatClampNeg) : ¬ (j < 0 ∨ c.slots.size ≤ j.toNatClampNeg) := by
  rintro (q | q)
  · exact hj0 q
  · rw [Sz, hj] at q; omega
theorem o_stC (W : Wk p l e R s m args below meth c own Z hb ws I T h locs cells slots) {a : Addr} {k : ClassId} {z : Int32} {vs vs' : List Value} {dv : Value} (V : Arv Z h a k .char z vs dv) {j x x' : Int32} {i : Nat} (hj : j.toNatClampNeg = i) (hj0 : ¬ j < 0) (hi : i < z.toNatClampNeg) (hi' : i < vs.length) (hx' : nar .char x = x') (hv : vs.set i (.int x') = vs')
    (g1 : Z.heap.size ≤ a) (g2 : a ∈ ws ∨ hb.size ≤ a) (hI : ∀ h', Wr h h' a i (.int x') → I h') (hd : decode c.code pc = .ok (.castore, 1)) (hp : pc + 1 = pc')
    (K : ∀ T' h' locs', Wk p l e R s m args below meth c own Z hb ws I T' h' locs' cells slots → Wr h h' a i (.int x') → Arv Z h' a k .char z vs' dv → Gl p.tables e below P T' m pc' L S) : Gl p.tables e below P T m pc L (.int x :: .int j :: .ref a :: S) := by
  subst hp hx' hv
  obtain ⟨X, hx, eT, hZ, ho, o, fr, kp, i'⟩ := W
  obtain ⟨cl, A, q, Sz, N, H, G⟩ := V
  obtain ⟨T', h', X', e', Wr', st⟩ := stC X hx hZ eT A (own_inb Sz hj hj0 hi) (g := mkF m pc L (.int x :: .int j :: .ref a :: S)) rfl rfl hd
  have V' := Arv.set A q Sz N H G (fits_nar_char x) Wr' i hj hi'
  subst hj
  exact Gl.st st (K T' h' _ ⟨X', hx, e', hZ, ho, o.wr Wr' g1, Fr.snoc X' fr g1, kp.wr Wr' g2, hI _ Wr'⟩ Wr' V')
theorem o_caload (W : Wk p l e R s m args below meth c own Z hb ws I T h locs cells slots) {a : Addr} {k : ClassId} {z : Int32} {vs : List Value} {dv : Value} (V : Arv Z h a k .char z vs dv) {j x : Int32} {i : Nat} (hj : j.toNatClampNeg = i) (hj0 : ¬ j < 0) (hi : i < z.toNatClampNeg) (hv : vs.getD i dv = .int x) (hd : decode c.code pc = .ok (.caload, 1)) (hp : pc + 1 = pc')
    (K : Gl p.tables e below P T m pc' L (.int x :: S)) : Gl p.tables e below P T m pc L (.int j :: .ref a :: S) := by
  subst hp hj
  obtain ⟨X, hx, eT, hZ, ho, r⟩ := W
  obtain ⟨cl, A, -, Sz, N, H, -⟩ := V
  have hin := own_inb Sz rfl hj0 hi
  exact Gl.st (X.caload hx (by rw [eT]; exact A.1) (State.isArrayOf_alike hZ.alike A.2.1) A.2.2 hin (H.at hin hv) (g := mkF m pc L (.int j :: .ref a :: S)) rfl rfl hd) K
theorem o_aaload (W : Wk p l e R s m args below meth c own Z hb ws I T h locs cells slots) {a : Addr} {k : ClassId} {ty : FieldType} {z : Int32} {vs : List Value} {dv v : Value} (V : Arv Z h a k ty z vs dv) (hty : ty.isReference = true) {j : Int32} {i : Nat} (hj : j.toNatClampNeg = i) (hj0 : ¬ j < 0) (hi : i < z.toNatClampNeg) (hv : vs.getD i dv = v) (hd : decode c.code pc = .ok (.aaload, 1)) (hp : pc + 1 = pc')
    (K : Gl p.tables e below P T m pc' L (v :: S)) : Gl p.tables e below P T m pc L (.int j :: .ref a :: S) := by
  subst hp hj
  obtain ⟨X, hx, eT, hZ, ho, r⟩ := W
  obtain ⟨cl, A, -, Sz, N, H, -⟩ := V
  have hin := own_inb Sz rfl hj0 hi
  exact Gl.st (X.aaload hx (by rw [eT]; exact A.1) (State.isArrayOf_alike hZ.alike A.2.1) hty A.2.2 hin (H.at hin hv) (g := mkF m pc L (.int j :: .ref a :: S)) rfl rfl hd) K
theorem o_cast (W : Wk p l e R s m args below meth c own Z hb ws I T h locs cells slots) {K0 : String} {index : Nat} (w : (Cond.classLink own index K0).before a0 Z = true) {a : Addr} (F : Ins Z h a K0 true) (hd : decode c.code pc = .ok (.checkcast index, 3)) (hp : pc + 3 = pc')
    (K : ∀ T', Wk p l e R s m args below meth c own Z hb ws I T' h locs cells slots → Gl p.tables e below P T' m pc' L (.ref a :: S)) : Gl p.tables e below P T m pc L (.ref a :: S) := by
  subst hp
  obtain ⟨X, hx, eT, hZ, ho, r⟩ := W
  obtain ⟨T', X', e', st⟩ := castY X hx hZ ho w eT F (g := mkF m pc L (.ref a :: S)) rfl rfl hd
  exact Gl.st st (K T' ⟨X', hx, e', hZ, ho, r⟩)
theorem o_instNull (W : Wk p l e R s m args below meth c own Z hb ws I T h locs cells slots) {index : Nat} (hd : decode c.code pc = .ok (.instanceof index, 3)) (hp : pc + 3 = pc') (K : Gl p.tables e below P T m pc' L (.int 0 :: S)) : Gl p.tables e below P T m pc L (.null :: S) := by
  subst hp
  exact Gl.st (W.1.instanceofNull W.2.1 (g := mkF m pc L (.null :: S)) rfl rfl hd) K
theorem o_ldcI (W : Wk p l e R s m args below meth c own Z hb ws I T h locs cells slots) {index : Nat} {v : Int32} (w : (Cond.constant own index v).before a0 Z = true) (hd : decode c.code pc = .ok (.ldc index, 2)) (hp : pc + 2 = pc') (K : Gl p.tables e below P T m pc' L (.int v :: S)) : Gl p.tables e below P T m pc L S := by
  subst hp
  exact Gl.st (W.1.ldcInt W.2.1 W.2.2.2.2.1 (mvT W.2.2.2.1 w) (g := mkF m pc L S) rfl hd) K
abbrev BackQ (l : Launch) (R : Room) (p : Program) (e : Env) (below : List Frame) (s : State) (args : Array Value) (y : MethodName) (len Wd : Nat) (as' : Array Value) (h : Heap) (kc ks : Nat) (Q : Option Value → Heap → List Loc → Prop) : Prop :=
  Back l R p e below s args y len Wd (fun A a => a = as' ∧ A.U.heap = h ∧ A.cells + kc ≤ R.cells ∧ A.slots + ks ≤ R.slots) (fun A _ v B => ∃ L, Q v B.U.heap L ∧ B.locs = A.locs ++ L ∧ B.cells = A.cells + kc ∧ B.slots = A.slots + ks)
theorem o_after (W : Wk p l e R s m args below meth c own Z hb ws I T h locs cells slots) {B : Pt} {v : Option Value} {kc ks : Nat} {Q : Option Value → Heap → List Loc → Prop} {wy : List Addr} (X' : Stand p l e R s m args below meth c B.U B.locs B.cells B.slots) (hpost : ∃ L, Q v B.U.heap L ∧ B.locs = locs ++ L ∧ B.cells = cells + kc ∧ B.slots = slots + ks)
    (hq : ∀ v hh L, Q v hh L → Fr Z.heap.size L ∧ Keep h hh wy) (hg : ∀ x ∈ wy, Z.heap.size ≤ x ∧ (x ∈ ws ∨ hb.size ≤ x)) (hI : ∀ h', Keep h h' wy → I h') :
    ∃ L, Q v B.U.heap L ∧ Keep h B.U.heap wy ∧ Wk p l e R s m args below meth c own Z hb ws I B.U B.U.heap (locs ++ L) (cells + kc) (slots + ks) := by
  obtain ⟨X, hx, eT, hZ, ho, o, fr, kp, i⟩ := W
  obtain ⟨⟨U, lo, kc', ks'⟩, rfl⟩ : ∃ B', B' = B := ⟨_, rfl⟩
  obtain ⟨L', q, e1, e2, e3⟩ := hpost
  have e1 : lo = locs ++ L' := e1
  have e2 : kc' = cells + kc := e2
  have e3 : ks' = slots + ks := e3
  subst e1 e2 e3
  obtain ⟨f, k⟩ := hq _ _ _ q
  exact ⟨L', q, k, X', hx, rfl, hZ, ho, o.keep k (fun x hx => (hg x hx).1), fr.app f, kp.trans k (fun x hx => (hg x hx).2), hI _ k⟩
theorem o_static (W : Wk p l e R s m args below meth c own Z hb ws I T h locs cells slots) {index : Nat} {y : MethodName} {bytes : ByteArray} {maxL : Nat} {ret : Option FieldType} (w1 : (Cond.methodLink own index y).before a0 Z = true) (w2 : (Cond.static y).before a0 Z = true) (w3 : (Cond.initialized y.cls).before a0 Z = true) (w4 : (Cond.code y bytes maxL ret).before a0 Z = true)
    (hy : y.cls ≠ "java/lang/invoke/MethodHandle" ∧ y.cls ≠ "java/lang/invoke/VarHandle") {Wd kc ks : Nat} {Q : Option Value → Heap → List Loc → Prop} {argsL : List Value} (B : BackQ l R p e below s args y 3 Wd argsL.toArray h kc ks Q) (hml : L.size = c.maxLocals)
    (hlen : ∀ sig, parseMethodDescriptor y.desc = some sig → argsL.length = sig.parameters.length) {S0 : List Value} (hS : S0 = argsL.reverse ++ S) (hW : 2 * 0 + (S.map fun v => v.category).sum ≤ Wd) (hd : decode c.code pc = .ok (.invokestatic index, 3)) (hp : pc + 3 = pc')
    (hc' : cells + kc = cells') (hs' : slots + ks = slots') (hc : cells' ≤ R.cells) (hs : slots' ≤ R.slots) {wy : List Addr} (hq : ∀ v hh L, Q v hh L → Fr Z.heap.size L ∧ Keep h hh wy) (hg : ∀ x ∈ wy, Z.heap.size ≤ x ∧ (x ∈ ws ∨ hb.size ≤ x)) (hI : ∀ h', Keep h h' wy → I h')
    (K : ∀ v T' h' Lc, Wk p l e R s m args below meth c own Z hb ws I T' h' (locs ++ Lc) cells' slots' → Keep h h' wy → Q v h' Lc → Gl p.tables e below P T' m pc' L (v.toList ++ S)) : Gl p.tables e below P T m pc L S0 := by
  subst hp hc' hs' hS
  obtain ⟨v, vm₁, B', -, X', hpost, st⟩ := Jvm.LawKit.callS W.1 W.2.1 W.2.2.2.2.1 (mvT W.2.2.2.1 w1) (mvT W.2.2.2.1 w2) (mvT W.2.2.2.1 w3) (mvT W.2.2.2.1 w4) hy B (g := mkF m pc L (argsL.reverse ++ S)) rfl hml hlen rfl hW hd (fun _ _ => ⟨rfl, W.2.2.1, hc, hs⟩)
  obtain ⟨Lc, q, k, W'⟩ := o_after W X' hpost hq hg hI
  exact Gl.st st (K v _ _ Lc W' k q)
theorem o_special (W : Wk p l e R s m args below meth c own Z hb ws I T h locs cells slots) {index : Nat} {y : MethodName} {bytes : ByteArray} {maxL : Nat} (hy1 : y.name = "<init>") (w1 : (Cond.methodLink own index y).before a0 Z = true) (w2 : (Cond.instanceMethod y).before a0 Z = true) (w4 : (Cond.code y bytes maxL none).before a0 Z = true)
    (hy : y.cls ≠ "java/lang/invoke/MethodHandle" ∧ y.cls ≠ "java/lang/invoke/VarHandle") {Wd kc ks : Nat} {Q : Option Value → Heap → List Loc → Prop} {a : Addr} {argsL : List Value} (B : BackQ l R p e below s args y 3 Wd (.ref a :: argsL).toArray h kc ks Q) (hml : L.size = c.maxLocals)
    (hlen : ∀ sig, parseMethodDescriptor y.desc = some sig → argsL.length = sig.parameters.length) {S0 : List Value} (hS : S0 = argsL.reverse ++ .ref a :: S) (hW : 2 * 0 + (S.map fun v => v.category).sum ≤ Wd) (hd : decode c.code pc = .ok (.invokespecial index, 3)) (hp : pc + 3 = pc')
    (hc' : cells + kc = cells') (hs' : slots + ks = slots') (hc : cells' ≤ R.cells) (hs : slots' ≤ R.slots) {wy : List Addr} (hq : ∀ v hh L, Q v hh L → Fr Z.heap.size L ∧ Keep h hh wy) (hg : ∀ x ∈ wy, Z.heap.size ≤ x ∧ (x ∈ ws ∨ hb.size ≤ x)) (hI : ∀ h', Keep h h' wy → I h')
    (K : ∀ v T' h' Lc, Wk p l e R s m args below meth c own Z hb ws I T' h' (locs ++ Lc) cells' slots' → Keep h h' wy → Q v h' Lc → Gl p.tables e below P T' m pc' L (v.toList ++ S)) : Gl p.tables e below P T m pc L S0 := by
  subst hp hc' hs' hS
  obtain ⟨v, vm₁, B', -, X', hpost, st⟩ := W.1.specialBack W.2.1 hy1 W.2.2.2.2.1 (mvT W.2.2.2.1 w1) (mvT W.2.2.2.1 w2) (mvT W.2.2.2.1 w4) hy B (g := mkF m pc L (argsL.reverse ++ .ref a :: S)) rfl hml (Steps.refl _) hlen rfl hW hd (fun _ _ => ⟨rfl, W.2.2.1, hc, hs⟩)
  obtain ⟨Lc, q, k, W'⟩ := o_after W X' hpost hq hg hI
  exact Gl.tr st (K v _ _ Lc W' k q)
theorem o_virtual (W : Wk p l e R s m args below meth c own Z hb ws I T h locs cells slots) {index : Nat} {C : String} {y z : MethodName} (w1 : (Cond.methodLink own index y).before a0 Z = true) (w2 : (Cond.declares y).before a0 Z = true) (hnf : NotFace s y) (w3 : (Cond.selects C y z).before a0 Z = true) (w4 : (Cond.instanceMethod z).before a0 Z = true)
    (hy : y.cls ≠ "java/lang/invoke/MethodHandle" ∧ y.cls ≠ "java/lang/invoke/VarHandle") {Wd kc ks : Nat} {Q : Option Value → Heap → List Loc → Prop} {a : Addr} (E : Exa Z h a C) {argsL : List Value} (B : BackQ l R p e below s args z 3 Wd (.ref a :: argsL).toArray h kc ks Q) (hml : L.size = c.maxLocals)
    (hlen : ∀ sig, parseMethodDescriptor y.desc = some sig → argsL.length = sig.parameters.length) {S0 : List Value} (hS : S0 = argsL.reverse ++ .ref a :: S) (hW : 2 * 0 + (S.map fun v => v.category).sum ≤ Wd) (hd : decode c.code pc = .ok (.invokevirtual index, 3)) (hp : pc + 3 = pc')
    (hc' : cells + kc = cells') (hs' : slots + ks = slots') (hc : cells' ≤ R.cells) (hs : slots' ≤ R.slots) {wy : List Addr} (hq : ∀ v hh L, Q v hh L → Fr Z.heap.size L ∧ Keep h hh wy) (hg : ∀ x ∈ wy, Z.heap.size ≤ x ∧ (x ∈ ws ∨ hb.size ≤ x)) (hI : ∀ h', Keep h h' wy → I h')
    (K : ∀ v T' h' Lc, Wk p l e R s m args below meth c own Z hb ws I T' h' (locs ++ Lc) cells' slots' → Keep h h' wy → Q v h' Lc → Gl p.tables e below P T' m pc' L (v.toList ++ S)) : Gl p.tables e below P T m pc L S0 := by
  subst hp hc' hs' hS
  obtain ⟨cB, kB, q1, q2, q3⟩ := isOf W.2.2.2.1 W.2.2.1 E
  obtain ⟨v, vm₁, B', -, X', hpost, st⟩ := W.1.virtualBack W.2.1 W.2.2.2.2.1 (mvT W.2.2.2.1 w1) (mvT W.2.2.2.1 w2) hnf (mvT W.2.2.2.1 w3) (mvT W.2.2.2.1 w4) hy B q1 q3 (g := mkF m pc L (argsL.reverse ++ .ref a :: S)) rfl hml (Steps.refl _) hlen rfl hW hd (fun _ _ => ⟨rfl, W.2.2.1, hc, hs⟩)
  obtain ⟨Lc, q, k, W'⟩ := o_after W X' hpost hq hg hI
  exact Gl.tr st (K v _ _ Lc W' k q)
theorem o_nf (W : Wk p l e R s m args below meth c own Z hb ws I T h locs cells slots) {C : String} {y z : MethodName} (hyz : y = z) (w : (Cond.selects C y z).before a0 Z = true) : NotFace s y := by
  subst hyz
  exact notFace_of_selects (args := #[]) (mvT W.2.2.2.1 w)
def CtrN (l : Launch) (Z : State) (y : MethodName) (bytes : ByteArray) (maxL : Nat) (ret : Option FieldType) (xs : List Jvm.Cond) (rm : Room) (as' : Array Value) (h0 : Heap) (wy : List Addr) (Q : Option Value → Heap → Prop) : Prop :=
  MetFree l y (head1 (Jvm.Cond.code y bytes maxL ret :: xs) rm) (fun a U => a = as' ∧ Z.Warmed39 U.vm ∧ U.heap = h0) (fun _ _ _ _ _ => True) (fun _ U o U' => ∃ v L, o = .returned v ∧ (Fr Z.heap.size L ∧ Keep h0 U'.heap wy ∧ Q v U'.heap) ∧ FrameEnd U o U' L rm.cells rm.slots)
def PN (s : State) (Z : State) (below : List Frame) (h0 : Heap) (wy : List Addr) (rm : Room) (Q : Option Value → Heap → Prop) (s₂ : State) (o : Outcome) : Prop := s₂.status = .running ∧ Ended s₂ below o ∧ ∃ v L, o = .returned v ∧ (Fr Z.heap.size L ∧ Keep h0 s₂.heap wy ∧ Q v s₂.heap) ∧ FrameEnd s o s₂ L rm.cells rm.slots
theorem own_entry {as : List Value} {n : Nat} {Ls : List Slot} (h : Jvm.Sym.laidSlots as ++ List.replicate (n - (Jvm.Sym.laidSlots as).length) Slot.unset = Ls) (m : MethodId) : entryFrame m as.toArray n = mkF m 0 Ls.toArray [] := by
  have e : argsToLocals as.toArray n = Ls.toArray := Array.toList_inj.mp ((Jvm.Sym.argsToLocals_toList _ _).trans h)
  exact congrArg (fun L => mkF m 0 L []) e
theorem CtrN.intro {y : MethodName} {bytes : ByteArray} {maxL : Nat} {ret : Option FieldType} {xs : List Jvm.Cond} {rm : Room} {as' : Array Value} {h0 : Heap} {wy : List Addr} {Q : Option Value → Heap → Prop} {L0 : Array Slot} (hx : plainFor y = true) (O : Old Z Z.heap.size h0) (hef : ∀ m, entryFrame m as' maxL = mkF m 0 L0 [])
    (body : ∀ (p : Program) (e : Env) (s : State) (m : MethodId) (below : List Frame) (meth : Method) (c : Code) (T : State), c.code = bytes → c.maxLocals = maxL → meth.sig.returnType = ret → meth.locks = false → meth.name = y.name → Wk p l e rm s m as' below meth c y.cls Z h0 wy (fun _ => True) T h0 [] 0 0 → Gl p.tables e below (PN s Z below h0 wy rm Q) T m 0 L0 []) :
    CtrN l Z y bytes maxL ret xs rm as' h0 wy Q := by
  refine MetFree.of_bodySF hx hisR ?_
  intro p e s m args below meth c s₁ Bd hml hP hK
  obtain ⟨rfl, hZ, hh⟩ := hP
  have e0 : s₁.heap = h0 := by rw [← hh, Bd.state]; rfl
  obtain ⟨s2, o, g1, g2, g3, g4⟩ := body p e s m below meth c s₁ Bd.bytes hml Bd.returns Bd.notSynchronized (name_of_methodNamed Bd.named Bd.method).1 ⟨Stand.of_body Bd, Bd.exec, e0, hZ, findClass_of_methodNamed Bd.named, O, Fr.nil _, Keep.refl _ _, trivial⟩
  exact ⟨s2, o, castTop (hef m) g1, g2, g3, g4⟩
theorem CtrN.back {y : MethodName} {bytes : ByteArray} {maxL : Nat} {ret : Option FieldType} {rm : Room} {as' : Array Value} {wy : List Addr} {Q : Option Value → Heap → Prop} {len Wd : Nat} (W : Wk p l e R s m args below meth c own Z hb ws I T h locs cells slots) (C : CtrN l Z y bytes maxL ret [] rm as' h wy Q) (wc : (Cond.code y bytes maxL ret).before a0 Z = true) (wz : (Cond.initialized y.cls).before a0 Z = true)
    (hf : rm.frames + 1 ≤ R.frames) (hl : Wd + (maxL + 11) + rm.locals ≤ R.locals) : BackQ l R p e below s args y len Wd as' h rm.cells rm.slots (fun v hh L => Fr Z.heap.size L ∧ Keep h hh wy ∧ Q v hh) :=
  backOf (Q := fun v hh L => Fr Z.heap.size L ∧ Keep h hh wy ∧ Q v hh) C W.2.2.2.1 wc wz hf hl
theorem o_leaveN {y0 : List Addr} {Q : Option Value → Heap → Prop} {rm : Room} (W : Wk p l e rm s m args below meth c own Z hb ws I T h locs cells slots) (hlk : meth.locks = false) {v : Option Value} (hv : meth.sig.returnType = none → v = none) (hq : Q v h) (hc : cells ≤ rm.cells) (hs : slots ≤ rm.slots) (st : ∀ fs, (∀ (f : JFrame) (acts : List Action), f.method = m → f.locked = none → f.entered = [] → (doReturn e (T.setTop f) acts v).1 = T.setFrames fs) → Steps p.tables e below (T.setTop (mkF m pc L S)) (T.setFrames fs)) :
    Gl p.tables e below (PN s Z below hb ws rm Q) T m pc L S := by
  obtain ⟨X, hx, eT, hZ, ho, o, fr, kp, i⟩ := W
  obtain ⟨fs, hr, hrun, hended, hW, hsame⟩ := X.leave (v := v) hv
  have eh : (T.setFrames fs).heap = h := eT
  exact ⟨_, _, st fs hr, hrun, hended, v, locs, rfl, ⟨fr, by rw [eh]; exact kp, by rw [eh]; exact hq⟩, ⟨_, rfl⟩, hW, hsame.mono hc hs⟩
theorem o_retN (W : Wk p l e R s m args below meth c own Z hb ws I T h locs cells slots) (hlk : meth.locks = false) {Q : Option Value → Heap → Prop} {z z' : Int32} {t : FieldType} (hret : meth.sig.returnType = some t) (ht : t = .boolean ∨ t = .byte ∨ t = .char ∨ t = .short) (hz : nar t z = z') (hd : decode c.code pc = .ok (.ireturn, 1)) (hc : cells ≤ R.cells) (hs : slots ≤ R.slots) (hq : Q (some (.int z')) h) : Gl p.tables e below (PN s Z below hb ws R Q) T m pc L (.int z :: S) := by
  subst hz
  exact o_leaveN (y0 := []) W hlk (fun q => by rw [hret] at q; cases q) hq hc hs fun fs hr => retN W.1 W.2.1 hret ht hd hr
theorem o_retA (W : Wk p l e R s m args below meth c own Z hb ws I T h locs cells slots) (hlk : meth.locks = false) {Q : Option Value → Heap → Prop} {t : FieldType} {v : Value} (hret : meth.sig.returnType = some t) (ht : t.isReference = true) (hv : v.isRef = true) (hd : decode c.code pc = .ok (.areturn, 1)) (hc : cells ≤ R.cells) (hs : slots ≤ R.slots) (hq : Q (some v) h) : Gl p.tables e below (PN s Z below hb ws R Q) T m pc L (v :: S) :=
  o_leaveN (y0 := []) W hlk (fun q => by rw [hret] at q; cases q) hq hc hs fun fs hr => retOut W.1 W.2.1 hret (by cases v <;> first | (cases hv; done) | (cases t <;> first | (cases ht; done) | rfl)) (Or.inr (Or.inr (Or.inr (Or.inr ⟨rfl, ht, hv⟩)))) hd hr
theorem own_fI {args : Array Value} {t : Term} {a : Addr} {C n d : String} {y : Int32} (ev : t.eval args Z none [] Z = some (.ref a)) (h : (Cond.eq (.field t C n d) (.int y)).value args Z none Z [] = some true) : Fld Z Z.heap a C n d (.int y) := by
  have q := eqv_i (Term.int_eval y) h
  rw [fld_at ev] at q
  exact Fld.start q
end OwnPre

section OwnMore
variable {p : Program} {l : Launch} {e : Env} {R : Room} {s : State} {m : MethodId} {args : Array Value} {below : List Frame} {meth : Method} {c : Code} {T : State} {locs : List Loc} {cells slots cells' slots' : Nat} {Z : State} {a0 : Array Value} {h h' hb : Heap} {ws : List Addr} {own : String} {I : Heap → Prop} {P : State → Outcome → Prop} {pc pc' : Nat} {L L' : Array Slot} {S : List Value}
def MirW (Z : State) (C : String) (a : Addr) : Prop := ∃ (c : ClassId) (k : Class), Z.vm.findClass C = some c ∧ Z.vm.classes[c]? = some k ∧ k.mirror = some a
theorem o_clone (W : Wk p l e R s m args below meth c own Z hb ws I T h locs cells slots) {ad : String} {index : Nat}
    (w1 : (Cond.methodLink own index ⟨ad, "clone", "()Ljava/lang/Object;"⟩).before a0 Z = true) (w2 : (Cond.sameMethod ad "java/lang/Object" "clone" "()Ljava/lang/Object;").before a0 Z = true) (w3 : (Cond.native ⟨"java/lang/Object", "clone", "()Ljava/lang/Object;"⟩).before a0 Z = true)
    (w4 : (Cond.instanceMethod ⟨"java/lang/Object", "clone", "()Ljava/lang/Object;"⟩).before a0 Z = true) (w5 : (Cond.selects ad ⟨ad, "clone", "()Ljava/lang/Object;"⟩ ⟨"java/lang/Object", "clone", "()Ljava/lang/Object;"⟩).before a0 Z = true) (w6 : (Cond.castable ad "java/lang/Cloneable").before a0 Z = true)
    {a : Addr} {k : ClassId} {ty : FieldType} {z : Int32} {vs : List Value} {dv : Value} (V : Arv Z Z.heap a k ty z vs dv) (E : Exa Z Z.heap a ad) (F : ∀ cl, Z.heap[a]? = some cl → FitC Z cl) (hI : ∀ h', Ext h h' → I h') (hml : L.size = c.maxLocals) (hd : decode c.code pc = .ok (.invokevirtual index, 3)) (hp : pc + 3 = pc')
    (hf : 1 ≤ R.frames) (Wd : Nat) (hW : 2 * 0 + (S.map fun v => v.category).sum ≤ Wd) (hl : Wd + 14 ≤ R.locals) {cap : Nat} (hcap : z.toNatClampNeg ≤ cap) (hc' : cells + 1 = cells') (hs' : slots + cap = slots') (hc : cells' ≤ R.cells) (hs : slots' ≤ R.slots)
    (K : ∀ b T' h', Wk p l e R s m args below meth c own Z hb ws I T' h' locs cells' slots' → Ext h h' → h.size ≤ b → Z.heap.size ≤ b → hb.size ≤ b → Arv Z h' b k ty z vs dv → Exa Z h' b ad → Gl p.tables e below P T' m pc' L (.ref b :: S)) : Gl p.tables e below P T m pc L (.ref a :: S) := by
  subst hp hc' hs'
  obtain ⟨cl, A0, r⟩ := V
  have A := A0.ext W.ox
  have E' := E.ext W.ox
  obtain ⟨X, hx, eT, hZ, ho, o, fr, kp, i⟩ := W
  obtain ⟨T', h', X', e', Ex, A', E2, st⟩ := cloneA X hx hZ ho w1 w2 w3 w4 w5 w6 eT A E' (F cl A0.1) (g := mkF m pc L (.ref a :: S)) rfl hml rfl hd hf hW hl (by rw [r.2.1]; exact hcap) hc hs
  exact Gl.st st (K _ T' h' ⟨X', hx, e', hZ, ho, o.ext Ex, fr, kp.ext Ex, hI _ Ex⟩ Ex (Nat.le_refl _) o.2.1 kp.1 ⟨cloneOf cl, A', r⟩ E2)
end OwnMore
set_option maxRecDepth 65536
set_option maxHeartbeats 40000000

def own_b (x : Int32) : Prop := ¬ x < 0 ∧ ¬ (255 : Int32) < x
def own_01 (x : Int32) : Prop := x = 0 ∨ x = 1
def own_ok (cs : List Int32) : Prop := (∀ c ∈ cs, own_b c) ∧ cs.length ≤ 4000
def own_eq (cs ds : List Int32) : Int32 := if cs = ds then 1 else 0
theorem own_eq01 (cs ds : List Int32) : own_01 (own_eq cs ds) := by unfold own_eq own_01; split <;> simp
theorem own_eq_symm (cs ds : List Int32) : own_eq cs ds = own_eq ds cs := by
  unfold own_eq
  by_cases h : cs = ds
  · rw [if_pos h, if_pos h.symm]
  · rw [if_neg h, if_neg (Ne.symm h)]
theorem own_lcs (x : Int64) : lcmpW x x = 0 := by simp [lcmpW]
theorem own_eqne (cs : List Int32) : ¬ own_eq cs cs = 0 := by unfold own_eq; rw [if_pos rfl]; decide
theorem own_ite0 {P : Prop} [Decidable P] (h : ¬ P) : (0 : Int32) = if P then 1 else 0 := (if_neg h).symm
theorem own_ite1 {P : Prop} [Decidable P] (h : P) : (1 : Int32) = if P then 1 else 0 := (if_pos h).symm
theorem own_b255 (x : Int32) : own_b (x &&& (255 : Int32)) := by
  have h := c_andS x 255
  have h1 : (x &&& (255 : Int32)).toBitVec.toNat ≤ 255 := by
    rw [Int32.toBitVec_and, BitVec.toNat_and]; exact Nat.and_le_right
  have h0 := h.2.2 (by decide)
  have e : (x &&& (255 : Int32)).toInt = (x &&& (255 : Int32)).toBitVec.toNat := by
    show (x &&& (255 : Int32)).toBitVec.toInt = _
    rw [BitVec.toInt_eq_toNat_cond, if_pos (by omega)]
  refine ⟨?_, ?_⟩
  · rw [Int32.lt_iff_toInt_lt]; show ¬ _ < (0 : Int); omega
  · rw [Int32.lt_iff_toInt_lt]; show ¬ (255 : Int) < _; omega
theorem own_bnat {x : Int32} (h : own_b x) : x.toBitVec.toNat ≤ 255 ∧ x.toInt = x.toBitVec.toNat := by
  obtain ⟨h0, h1⟩ := h
  rw [Int32.lt_iff_toInt_lt] at h0 h1
  have e0 : (0 : Int32).toInt = 0 := rfl
  have e1 : (255 : Int32).toInt = 255 := rfl
  have := x.toBitVec.isLt
  have e : x.toInt = x.toBitVec.toInt := rfl
  have e2 : x.toBitVec.toInt = if 2 * x.toBitVec.toNat < 2 ^ 32 then (x.toBitVec.toNat : Int) else (x.toBitVec.toNat : Int) - ((2 ^ 32 : Nat) : Int) := BitVec.toInt_eq_toNat_cond x.toBitVec
  split at e2 <;> omega
theorem own_i2c {x : Int32} (h : own_b x) : x.toUInt32.toUInt16.toUInt32.toInt32 = x := by
  obtain ⟨h1, -⟩ := own_bnat h
  apply Int32.toBitVec_inj.mp
  apply BitVec.eq_of_toNat_eq
  show (BitVec.setWidth 32 (BitVec.setWidth 16 x.toBitVec)).toNat = _
  simp only [BitVec.toNat_setWidth]
  omega
theorem own_fitC {x : Int32} (h : own_b x) : fits .char (.int x) = true := by
  have q := fits_nar_char x
  have e : nar .char x = x := own_i2c h
  rw [e] at q; exact q
theorem own_nar01 {x : Int32} (h : own_01 x) : x &&& 1 = x := by rcases h with rfl | rfl <;> decide
theorem own_fit01 {x : Int32} (h : own_01 x) : fits .boolean (.int x) = true := by rcases h with rfl | rfl <;> decide
theorem own_up {cs : List Int32} (h : own_ok cs) : ∀ c ∈ cs, ¬ c < 0 ∧ ¬ (65535 : Int32) < c := fun c hc => by
  obtain ⟨h0, h1⟩ := h.1 c hc
  refine ⟨h0, fun q => h1 ?_⟩
  rw [Int32.lt_iff_toInt_lt] at q ⊢
  have e0 : (65535 : Int32).toInt = 65535 := rfl
  have e1 : (255 : Int32).toInt = 255 := rfl
  omega
theorem own_eqv {v : Option Value} {cs ds : List Int32} (h : (v = some (.int 1) ∧ cs = ds) ∨ (v = some (.int 0) ∧ ¬ cs = ds)) : v = some (.int (own_eq cs ds)) := by
  unfold own_eq
  rcases h with ⟨rfl, h⟩ | ⟨rfl, h⟩
  · rw [if_pos h]
  · rw [if_neg h]
theorem own_b8 (x : Int32) : x.toInt8.toInt32.toInt8.toInt32 = x.toInt8.toInt32 := by simp
theorem own_fit8 (x : Int32) : fits .byte (.int x.toInt8.toInt32) = true := fits_nar_byte x
theorem own_shr8 {x : Int32} (h : own_b x) : (x.toUInt32 >>> ((8 : Int32) &&& 31).toUInt32).toInt32 = 0 := by
  obtain ⟨h1, -⟩ := own_bnat h
  apply Int32.toBitVec_inj.mp
  apply BitVec.eq_of_toNat_eq
  have e : ((8 : Int32) &&& 31).toUInt32 = 8 := by decide
  rw [e]
  show (x.toUInt32 >>> 8).toBitVec.toNat = 0
  rw [UInt32.toBitVec_shiftRight]
  show (x.toBitVec >>> (8 : UInt32).toBitVec.umod 32).toNat = 0
  rw [BitVec.ushiftRight_eq', BitVec.toNat_ushiftRight, show ((8 : UInt32).toBitVec.umod 32).toNat = 8 by decide, Nat.shiftRight_eq_div_pow]
  omega
theorem own_eqS {args : Array Value} {Z : State} {t : Term} {x : Int32} (h : t.eval args Z none [] Z = some (.int x)) : (Jvm.Cond.eq t (.int 0)).value args Z none Z [] = some (decide (x = 0)) := by
  simp [Cond.value, h, Term.eval]
theorem own_same {n : Nat} {L : List Loc} {h hh : Heap} (q : L = [] ∧ hh = h) : Fr n L ∧ Keep h hh [] := by
  obtain ⟨rfl, rfl⟩ := q
  exact ⟨Fr.nil _, Keep.refl _ _⟩
theorem own_codE {cs : List Int32} {N : Int32} {vs : List Value} (h : own_ok cs) (e1 : N = Int32.ofNat (cs).length) (e2 : vs = (cs).map fun c => Value.int (StrChars.lo8 c)) : StrChars.Road.CodA cs 0 N vs := Or.inl ⟨rfl, e1, e2, fun c hc => (h.1 c hc).2⟩
theorem own_cod {cs : List Int32} (h : own_ok cs) : StrChars.Road.CodA cs 0 (Int32.ofNat (cs).length) ((cs).map fun c => Value.int (StrChars.lo8 c)) := Or.inl ⟨rfl, rfl, rfl, fun c hc => (h.1 c hc).2⟩
theorem own_hV {Z : State} {a0 : Array Value} (hw : ∀ d ∈ tables_1, d.before a0 Z = true) : ∀ d ∈ StrChars.Road.words, d.before a0 Z = true := fun d hd => hw d ((by decide +kernel : ∀ w ∈ StrChars.Road.words, w ∈ tables_1) d hd)
theorem own_hE {Z : State} {a0 : Array Value} (hw : ∀ d ∈ tables_1, d.before a0 Z = true) : ∀ d ∈ StrChars.Road.wordsEq, d.before a0 Z = true := fun d hd => hw d ((by decide +kernel : ∀ w ∈ StrChars.Road.wordsEq, w ∈ tables_1) d hd)

def own_4 (n : Int32) : Prop := n = 0 ∨ n = 1 ∨ n = 2 ∨ n = 3
theorem own_and3 (x : Int32) : own_4 (x &&& (3 : Int32)) := by
  have h1 : (x &&& (3 : Int32)).toBitVec.toNat ≤ 3 := by
    rw [Int32.toBitVec_and, BitVec.toNat_and]; exact Nat.and_le_right
  have key : ∀ b : BitVec 32, b.toNat ≤ 3 → b = 0#32 ∨ b = 1#32 ∨ b = 2#32 ∨ b = 3#32 := fun b hb => by
    rcases Nat.lt_or_ge b.toNat 1 with q | q
    · exact Or.inl (BitVec.eq_of_toNat_eq (by simp; omega))
    · rcases Nat.lt_or_ge b.toNat 2 with q | q
      · exact Or.inr (Or.inl (BitVec.eq_of_toNat_eq (by simp; omega)))
      · rcases Nat.lt_or_ge b.toNat 3 with q | q
        · exact Or.inr (Or.inr (Or.inl (BitVec.eq_of_toNat_eq (by simp; omega))))
        · exact Or.inr (Or.inr (Or.inr (BitVec.eq_of_toNat_eq (by simp; omega))))
  rcases key _ h1 with q | q | q | q
  · exact Or.inl (Int32.toBitVec_inj.mp q)
  · exact Or.inr (Or.inl (Int32.toBitVec_inj.mp q))
  · exact Or.inr (Or.inr (Or.inl (Int32.toBitVec_inj.mp q)))
  · exact Or.inr (Or.inr (Or.inr (Int32.toBitVec_inj.mp q)))

theorem own_eqR {Z : State} {args : Array Value} {a b : Term} {g : Addr} (h : (Jvm.Cond.eq a b).value args Z none Z [] = some true) (hb : b.eval args Z none [] Z = some (.ref g)) : a.eval args Z none [] Z = some (.ref g) := by
  obtain ⟨x, y, e1, e2, k1, k2⟩ := cmp_v (Or.inl h)
  cases hb.symm.trans e2
  have hx : x.isRef = true := k2.2
  have := gotT (eq_R e1 hb hx rfl) h
  rw [e1, this]
theorem own_len {Z : State} {args : Array Value} {t : Term} {a : Addr} {cl : Cell} {ty : FieldType} {n : Int32} (ev : t.eval args Z none [] Z = some (.ref a)) (A : Arr Z Z.heap a cl ty) (h : (Jvm.Cond.eq (.length t) (.int n)).value args Z none Z [] = some true) : cl.slots.size < 2 ^ 31 ∧ cl.slots.size.toInt32 = n := by
  have q := eqv_i (Term.int_eval n) h
  have f := A.fin (Vm.Alike.refl _)
  by_cases hs : cl.slots.size < 2 ^ 31
  · rw [len_f ev f hs] at q
    exact ⟨hs, by simpa using q⟩
  · simp [Term.eval, ev, f, hs] at q
theorem own_elI {Z : State} {args : Array Value} {t : Term} {a : Addr} {cl : Cell} {ty : FieldType} {i v : Int32} {k : Nat} (ev : t.eval args Z none [] Z = some (.ref a)) (A : Arr Z Z.heap a cl ty) (h : (Jvm.Cond.eq (.elem t (.int i)) (.int v)).value args Z none Z [] = some true) (hk : i.toNatClampNeg = k) : cl.slots[k]? = some (.int v) := by
  subst hk
  exact (elem_in (eqv_i (Term.int_eval v) h) ev (Term.int_eval i) A.1).2
theorem own_elJ {Z : State} {args : Array Value} {t : Term} {a : Addr} {cl : Cell} {ty : FieldType} {i : Int32} {v : Int64} {k : Nat} (ev : t.eval args Z none [] Z = some (.ref a)) (A : Arr Z Z.heap a cl ty) (h : (Jvm.Cond.eq (.elem t (.int i)) (.long v)).value args Z none Z [] = some true) (hk : i.toNatClampNeg = k) : cl.slots[k]? = some (.long v) := by
  subst hk
  exact (elem_in (eqv_l (long_at v) h) ev (Term.int_eval i) A.1).2
theorem own_elR {Z : State} {args : Array Value} {t : Term} {a : Addr} {cl : Cell} {ty : FieldType} {i : Int32} {v : Value} {k : Nat} (ev : t.eval args Z none [] Z = some (.ref a)) (A : Arr Z Z.heap a cl ty) (h : (Term.elem t (.int i)).eval args Z none [] Z = some v) (hk : i.toNatClampNeg = k) : cl.slots[k]? = some v := by
  subst hk
  exact (elem_in h ev (Term.int_eval i) A.1).2

theorem own_eqN {cs ds : List Int32} (h : ¬ cs = ds) : own_eq cs ds = 0 := if_neg h
theorem own_eqY {cs ds : List Int32} (h : cs = ds) : ¬ own_eq cs ds = 0 := by unfold own_eq; rw [if_pos h]; decide
theorem own_rem7 (x : Int32) : ((x &&& (2147483647 : Int32)) % (7 : Int32)) = 0 ∨ ((x &&& (2147483647 : Int32)) % (7 : Int32)) = 1 ∨ ((x &&& (2147483647 : Int32)) % (7 : Int32)) = 2 ∨ ((x &&& (2147483647 : Int32)) % (7 : Int32)) = 3 ∨ ((x &&& (2147483647 : Int32)) % (7 : Int32)) = 4 ∨ ((x &&& (2147483647 : Int32)) % (7 : Int32)) = 5 ∨ ((x &&& (2147483647 : Int32)) % (7 : Int32)) = 6 := by
  have h := (c_andS x 2147483647).2.2 (by decide)
  have e : ((x &&& (2147483647 : Int32)) % (7 : Int32)).toInt = (x &&& (2147483647 : Int32)).toInt.tmod 7 := Int32.toInt_mod _ _
  have h1 := Int.tmod_nonneg 7 h
  have h2 := Int.tmod_lt_of_pos (x &&& (2147483647 : Int32)).toInt (show (0 : Int) < 7 by decide)
  rcases Int.lt_or_le ((x &&& (2147483647 : Int32)).toInt.tmod 7) 1 with q | q
  · exact Or.inl (Int32.toInt_inj.mp (show _ = (0 : Int) by omega))
  · skip
    rcases Int.lt_or_le ((x &&& (2147483647 : Int32)).toInt.tmod 7) 2 with q | q
    · exact Or.inr (Or.inl (Int32.toInt_inj.mp (show _ = (1 : Int) by omega)))
    · skip
      rcases Int.lt_or_le ((x &&& (2147483647 : Int32)).toInt.tmod 7) 3 with q | q
      · exact Or.inr (Or.inr (Or.inl (Int32.toInt_inj.mp (show _ = (2 : Int) by omega))))
      · skip
        rcases Int.lt_or_le ((x &&& (2147483647 : Int32)).toInt.tmod 7) 4 with q | q
        · exact Or.inr (Or.inr (Or.inr (Or.inl (Int32.toInt_inj.mp (show _ = (3 : Int) by omega)))))
        · skip
          rcases Int.lt_or_le ((x &&& (2147483647 : Int32)).toInt.tmod 7) 5 with q | q
          · exact Or.inr (Or.inr (Or.inr (Or.inr (Or.inl (Int32.toInt_inj.mp (show _ = (4 : Int) by omega))))))
          · skip
            rcases Int.lt_or_le ((x &&& (2147483647 : Int32)).toInt.tmod 7) 6 with q | q
            · exact Or.inr (Or.inr (Or.inr (Or.inr (Or.inr (Or.inl (Int32.toInt_inj.mp (show _ = (5 : Int) by omega)))))))
            · exact Or.inr (Or.inr (Or.inr (Or.inr (Or.inr (Or.inr ((Int32.toInt_inj.mp (show _ = (6 : Int) by omega))))))))
theorem own_rem8 (x : Int32) : ((x &&& (2147483647 : Int32)) % (8 : Int32)) = 0 ∨ ((x &&& (2147483647 : Int32)) % (8 : Int32)) = 1 ∨ ((x &&& (2147483647 : Int32)) % (8 : Int32)) = 2 ∨ ((x &&& (2147483647 : Int32)) % (8 : Int32)) = 3 ∨ ((x &&& (2147483647 : Int32)) % (8 : Int32)) = 4 ∨ ((x &&& (2147483647 : Int32)) % (8 : Int32)) = 5 ∨ ((x &&& (2147483647 : Int32)) % (8 : Int32)) = 6 ∨ ((x &&& (2147483647 : Int32)) % (8 : Int32)) = 7 := by
  have h := (c_andS x 2147483647).2.2 (by decide)
  have e : ((x &&& (2147483647 : Int32)) % (8 : Int32)).toInt = (x &&& (2147483647 : Int32)).toInt.tmod 8 := Int32.toInt_mod _ _
  have h1 := Int.tmod_nonneg 8 h
  have h2 := Int.tmod_lt_of_pos (x &&& (2147483647 : Int32)).toInt (show (0 : Int) < 8 by decide)
  rcases Int.lt_or_le ((x &&& (2147483647 : Int32)).toInt.tmod 8) 1 with q | q
  · exact Or.inl (Int32.toInt_inj.mp (show _ = (0 : Int) by omega))
  · skip
    rcases Int.lt_or_le ((x &&& (2147483647 : Int32)).toInt.tmod 8) 2 with q | q
    · exact Or.inr (Or.inl (Int32.toInt_inj.mp (show _ = (1 : Int) by omega)))
    · skip
      rcases Int.lt_or_le ((x &&& (2147483647 : Int32)).toInt.tmod 8) 3 with q | q
      · exact Or.inr (Or.inr (Or.inl (Int32.toInt_inj.mp (show _ = (2 : Int) by omega))))
      · skip
        rcases Int.lt_or_le ((x &&& (2147483647 : Int32)).toInt.tmod 8) 4 with q | q
        · exact Or.inr (Or.inr (Or.inr (Or.inl (Int32.toInt_inj.mp (show _ = (3 : Int) by omega)))))
        · skip
          rcases Int.lt_or_le ((x &&& (2147483647 : Int32)).toInt.tmod 8) 5 with q | q
          · exact Or.inr (Or.inr (Or.inr (Or.inr (Or.inl (Int32.toInt_inj.mp (show _ = (4 : Int) by omega))))))
          · skip
            rcases Int.lt_or_le ((x &&& (2147483647 : Int32)).toInt.tmod 8) 6 with q | q
            · exact Or.inr (Or.inr (Or.inr (Or.inr (Or.inr (Or.inl (Int32.toInt_inj.mp (show _ = (5 : Int) by omega)))))))
            · skip
              rcases Int.lt_or_le ((x &&& (2147483647 : Int32)).toInt.tmod 8) 7 with q | q
              · exact Or.inr (Or.inr (Or.inr (Or.inr (Or.inr (Or.inr (Or.inl (Int32.toInt_inj.mp (show _ = (6 : Int) by omega))))))))
              · exact Or.inr (Or.inr (Or.inr (Or.inr (Or.inr (Or.inr (Or.inr ((Int32.toInt_inj.mp (show _ = (7 : Int) by omega)))))))))
theorem own_rem12 (x : Int32) : ((x &&& (2147483647 : Int32)) % (12 : Int32)) = 0 ∨ ((x &&& (2147483647 : Int32)) % (12 : Int32)) = 1 ∨ ((x &&& (2147483647 : Int32)) % (12 : Int32)) = 2 ∨ ((x &&& (2147483647 : Int32)) % (12 : Int32)) = 3 ∨ ((x &&& (2147483647 : Int32)) % (12 : Int32)) = 4 ∨ ((x &&& (2147483647 : Int32)) % (12 : Int32)) = 5 ∨ ((x &&& (2147483647 : Int32)) % (12 : Int32)) = 6 ∨ ((x &&& (2147483647 : Int32)) % (12 : Int32)) = 7 ∨ ((x &&& (2147483647 : Int32)) % (12 : Int32)) = 8 ∨ ((x &&& (2147483647 : Int32)) % (12 : Int32)) = 9 ∨ ((x &&& (2147483647 : Int32)) % (12 : Int32)) = 10 ∨ ((x &&& (2147483647 : Int32)) % (12 : Int32)) = 11 := by
  have h := (c_andS x 2147483647).2.2 (by decide)
  have e : ((x &&& (2147483647 : Int32)) % (12 : Int32)).toInt = (x &&& (2147483647 : Int32)).toInt.tmod 12 := Int32.toInt_mod _ _
  have h1 := Int.tmod_nonneg 12 h
  have h2 := Int.tmod_lt_of_pos (x &&& (2147483647 : Int32)).toInt (show (0 : Int) < 12 by decide)
  rcases Int.lt_or_le ((x &&& (2147483647 : Int32)).toInt.tmod 12) 1 with q | q
  · exact Or.inl (Int32.toInt_inj.mp (show _ = (0 : Int) by omega))
  · skip
    rcases Int.lt_or_le ((x &&& (2147483647 : Int32)).toInt.tmod 12) 2 with q | q
    · exact Or.inr (Or.inl (Int32.toInt_inj.mp (show _ = (1 : Int) by omega)))
    · skip
      rcases Int.lt_or_le ((x &&& (2147483647 : Int32)).toInt.tmod 12) 3 with q | q
      · exact Or.inr (Or.inr (Or.inl (Int32.toInt_inj.mp (show _ = (2 : Int) by omega))))
      · skip
        rcases Int.lt_or_le ((x &&& (2147483647 : Int32)).toInt.tmod 12) 4 with q | q
        · exact Or.inr (Or.inr (Or.inr (Or.inl (Int32.toInt_inj.mp (show _ = (3 : Int) by omega)))))
        · skip
          rcases Int.lt_or_le ((x &&& (2147483647 : Int32)).toInt.tmod 12) 5 with q | q
          · exact Or.inr (Or.inr (Or.inr (Or.inr (Or.inl (Int32.toInt_inj.mp (show _ = (4 : Int) by omega))))))
          · skip
            rcases Int.lt_or_le ((x &&& (2147483647 : Int32)).toInt.tmod 12) 6 with q | q
            · exact Or.inr (Or.inr (Or.inr (Or.inr (Or.inr (Or.inl (Int32.toInt_inj.mp (show _ = (5 : Int) by omega)))))))
            · skip
              rcases Int.lt_or_le ((x &&& (2147483647 : Int32)).toInt.tmod 12) 7 with q | q
              · exact Or.inr (Or.inr (Or.inr (Or.inr (Or.inr (Or.inr (Or.inl (Int32.toInt_inj.mp (show _ = (6 : Int) by omega))))))))
              · skip
                rcases Int.lt_or_le ((x &&& (2147483647 : Int32)).toInt.tmod 12) 8 with q | q
                · exact Or.inr (Or.inr (Or.inr (Or.inr (Or.inr (Or.inr (Or.inr (Or.inl (Int32.toInt_inj.mp (show _ = (7 : Int) by omega)))))))))
                · skip
                  rcases Int.lt_or_le ((x &&& (2147483647 : Int32)).toInt.tmod 12) 9 with q | q
                  · exact Or.inr (Or.inr (Or.inr (Or.inr (Or.inr (Or.inr (Or.inr (Or.inr (Or.inl (Int32.toInt_inj.mp (show _ = (8 : Int) by omega))))))))))
                  · skip
                    rcases Int.lt_or_le ((x &&& (2147483647 : Int32)).toInt.tmod 12) 10 with q | q
                    · exact Or.inr (Or.inr (Or.inr (Or.inr (Or.inr (Or.inr (Or.inr (Or.inr (Or.inr (Or.inl (Int32.toInt_inj.mp (show _ = (9 : Int) by omega)))))))))))
                    · skip
                      rcases Int.lt_or_le ((x &&& (2147483647 : Int32)).toInt.tmod 12) 11 with q | q
                      · exact Or.inr (Or.inr (Or.inr (Or.inr (Or.inr (Or.inr (Or.inr (Or.inr (Or.inr (Or.inr (Or.inl (Int32.toInt_inj.mp (show _ = (10 : Int) by omega))))))))))))
                      · exact Or.inr (Or.inr (Or.inr (Or.inr (Or.inr (Or.inr (Or.inr (Or.inr (Or.inr (Or.inr (Or.inr ((Int32.toInt_inj.mp (show _ = (11 : Int) by omega)))))))))))))

theorem w0 {Z : State} {a0 : Array Value} (hw : ∀ d ∈ tables_1, d.before a0 Z = true) : ((Jvm.Cond.arrayClass Jvm.ClassFile.FieldType.char)).before a0 Z = true := hw _ (List.mem_of_getElem? (i := 0) rfl)
theorem w1 {Z : State} {a0 : Array Value} (hw : ∀ d ∈ tables_1, d.before a0 Z = true) : ((Jvm.Cond.fieldLink "com/example/sessn/sessn/session/WeightsLabelledPinLaw" (7 : Nat) "com/example/sessn/sessn/session/Weights" "UNIFORM" "Lcom/example/sessn/sessn/session/Weights;")).before a0 Z = true := hw _ (List.mem_of_getElem? (i := 1) rfl)
theorem w2 {Z : State} {a0 : Array Value} (hw : ∀ d ∈ tables_1, d.before a0 Z = true) : ((Jvm.Cond.initialized "com/example/sessn/sessn/session/Weights")).before a0 Z = true := hw _ (List.mem_of_getElem? (i := 2) rfl)
theorem w3 {Z : State} {a0 : Array Value} (hw : ∀ d ∈ tables_1, d.before a0 Z = true) : ((Jvm.Cond.laysStatic "com/example/sessn/sessn/session/Weights" "UNIFORM" "Lcom/example/sessn/sessn/session/Weights;")).before a0 Z = true := hw _ (List.mem_of_getElem? (i := 3) rfl)
theorem w4 {Z : State} {a0 : Array Value} (hw : ∀ d ∈ tables_1, d.before a0 Z = true) : ((Jvm.Cond.constant "com/example/sessn/sessn/session/WeightsLabelledPinLaw" (19 : Nat) (2147483647 : Int32))).before a0 Z = true := hw _ (List.mem_of_getElem? (i := 4) rfl)
theorem w5 {Z : State} {a0 : Array Value} (hw : ∀ d ∈ tables_1, d.before a0 Z = true) : ((Jvm.Cond.classLink "com/example/sessn/sessn/session/WeightsLabelledPinLaw" (20 : Nat) "java/lang/String")).before a0 Z = true := hw _ (List.mem_of_getElem? (i := 5) rfl)
theorem w6 {Z : State} {a0 : Array Value} (hw : ∀ d ∈ tables_1, d.before a0 Z = true) : ((Jvm.Cond.instantiable "java/lang/String" (4 : Nat))).before a0 Z = true := hw _ (List.mem_of_getElem? (i := 6) rfl)
theorem w7 {Z : State} {a0 : Array Value} (hw : ∀ d ∈ tables_1, d.before a0 Z = true) : ((Jvm.Cond.initialized "java/lang/String")).before a0 Z = true := hw _ (List.mem_of_getElem? (i := 7) rfl)
theorem w8 {Z : State} {a0 : Array Value} (hw : ∀ d ∈ tables_1, d.before a0 Z = true) : ((Jvm.Cond.methodLink "com/example/sessn/sessn/session/WeightsLabelledPinLaw" (22 : Nat) ({ cls := "java/lang/String", name := "<init>", desc := "([C)V" } : Jvm.MethodName))).before a0 Z = true := hw _ (List.mem_of_getElem? (i := 8) rfl)
theorem w9 {Z : State} {a0 : Array Value} (hw : ∀ d ∈ tables_1, d.before a0 Z = true) : ((Jvm.Cond.instanceMethod ({ cls := "java/lang/String", name := "<init>", desc := "([C)V" } : Jvm.MethodName))).before a0 Z = true := hw _ (List.mem_of_getElem? (i := 9) rfl)
theorem w10 {Z : State} {a0 : Array Value} (hw : ∀ d ∈ tables_1, d.before a0 Z = true) : ((Jvm.Cond.code ({ cls := "java/lang/String", name := "<init>", desc := "([C)V" } : Jvm.MethodName) jdk_42_method_3_code (2 : Nat) (Option.none : Option Jvm.ClassFile.FieldType))).before a0 Z = true := hw _ (List.mem_of_getElem? (i := 10) rfl)
theorem w31 {Z : State} {a0 : Array Value} (hw : ∀ d ∈ tables_1, d.before a0 Z = true) : ((Jvm.Cond.laysFinal "java/lang/String" "java/lang/String" "coder" "B")).before a0 Z = true := hw _ (List.mem_of_getElem? (i := 31) rfl)
theorem w33 {Z : State} {a0 : Array Value} (hw : ∀ d ∈ tables_1, d.before a0 Z = true) : ((Jvm.Cond.laysFinal "java/lang/String" "java/lang/String" "value" "[B")).before a0 Z = true := hw _ (List.mem_of_getElem? (i := 33) rfl)
theorem w34 {Z : State} {a0 : Array Value} (hw : ∀ d ∈ tables_1, d.before a0 Z = true) : ((Jvm.Cond.methodLink "com/example/sessn/sessn/session/WeightsLabelledPinLaw" (25 : Nat) ({ cls := "com/example/sessn/sessn/session/Weights", name := "labelled", desc := "(Ljava/lang/String;)Lcom/example/sessn/sessn/session/Weights;" } : Jvm.MethodName))).before a0 Z = true := hw _ (List.mem_of_getElem? (i := 34) rfl)
theorem w35 {Z : State} {a0 : Array Value} (hw : ∀ d ∈ tables_1, d.before a0 Z = true) : ((Jvm.Cond.static ({ cls := "com/example/sessn/sessn/session/Weights", name := "labelled", desc := "(Ljava/lang/String;)Lcom/example/sessn/sessn/session/Weights;" } : Jvm.MethodName))).before a0 Z = true := hw _ (List.mem_of_getElem? (i := 35) rfl)
theorem w36 {Z : State} {a0 : Array Value} (hw : ∀ d ∈ tables_1, d.before a0 Z = true) : ((Jvm.Cond.code ({ cls := "com/example/sessn/sessn/session/Weights", name := "labelled", desc := "(Ljava/lang/String;)Lcom/example/sessn/sessn/session/Weights;" } : Jvm.MethodName) prog_28_method_5_code (6 : Nat) (Option.some (Jvm.ClassFile.FieldType.object "com/example/sessn/sessn/session/Weights")))).before a0 Z = true := hw _ (List.mem_of_getElem? (i := 36) rfl)
theorem w37 {Z : State} {a0 : Array Value} (hw : ∀ d ∈ tables_1, d.before a0 Z = true) : ((Jvm.Cond.methodLink "com/example/sessn/sessn/session/Weights" (36 : Nat) ({ cls := "com/example/sessn/sessn/session/Weights", name := "values", desc := "()[Lcom/example/sessn/sessn/session/Weights;" } : Jvm.MethodName))).before a0 Z = true := hw _ (List.mem_of_getElem? (i := 37) rfl)
theorem w38 {Z : State} {a0 : Array Value} (hw : ∀ d ∈ tables_1, d.before a0 Z = true) : ((Jvm.Cond.static ({ cls := "com/example/sessn/sessn/session/Weights", name := "values", desc := "()[Lcom/example/sessn/sessn/session/Weights;" } : Jvm.MethodName))).before a0 Z = true := hw _ (List.mem_of_getElem? (i := 38) rfl)
theorem w39 {Z : State} {a0 : Array Value} (hw : ∀ d ∈ tables_1, d.before a0 Z = true) : ((Jvm.Cond.code ({ cls := "com/example/sessn/sessn/session/Weights", name := "values", desc := "()[Lcom/example/sessn/sessn/session/Weights;" } : Jvm.MethodName) prog_28_method_1_code (0 : Nat) (Option.some (Jvm.ClassFile.FieldType.array (Jvm.ClassFile.FieldType.object "com/example/sessn/sessn/session/Weights"))))).before a0 Z = true := hw _ (List.mem_of_getElem? (i := 39) rfl)
theorem w40 {Z : State} {a0 : Array Value} (hw : ∀ d ∈ tables_1, d.before a0 Z = true) : ((Jvm.Cond.fieldLink "com/example/sessn/sessn/session/Weights" (13 : Nat) "com/example/sessn/sessn/session/Weights" "$VALUES" "[Lcom/example/sessn/sessn/session/Weights;")).before a0 Z = true := hw _ (List.mem_of_getElem? (i := 40) rfl)
theorem w42 {Z : State} {a0 : Array Value} (hw : ∀ d ∈ tables_1, d.before a0 Z = true) : ((Jvm.Cond.methodLink "com/example/sessn/sessn/session/Weights" (17 : Nat) ({ cls := "[Lcom/example/sessn/sessn/session/Weights;", name := "clone", desc := "()Ljava/lang/Object;" } : Jvm.MethodName))).before a0 Z = true := hw _ (List.mem_of_getElem? (i := 42) rfl)
theorem w43 {Z : State} {a0 : Array Value} (hw : ∀ d ∈ tables_1, d.before a0 Z = true) : ((Jvm.Cond.sameMethod "[Lcom/example/sessn/sessn/session/Weights;" "java/lang/Object" "clone" "()Ljava/lang/Object;")).before a0 Z = true := hw _ (List.mem_of_getElem? (i := 43) rfl)
theorem w45 {Z : State} {a0 : Array Value} (hw : ∀ d ∈ tables_1, d.before a0 Z = true) : ((Jvm.Cond.instanceMethod ({ cls := "java/lang/Object", name := "clone", desc := "()Ljava/lang/Object;" } : Jvm.MethodName))).before a0 Z = true := hw _ (List.mem_of_getElem? (i := 45) rfl)
theorem w46 {Z : State} {a0 : Array Value} (hw : ∀ d ∈ tables_1, d.before a0 Z = true) : ((Jvm.Cond.selects "[Lcom/example/sessn/sessn/session/Weights;" ({ cls := "[Lcom/example/sessn/sessn/session/Weights;", name := "clone", desc := "()Ljava/lang/Object;" } : Jvm.MethodName) ({ cls := "java/lang/Object", name := "clone", desc := "()Ljava/lang/Object;" } : Jvm.MethodName))).before a0 Z = true := hw _ (List.mem_of_getElem? (i := 46) rfl)
theorem w47 {Z : State} {a0 : Array Value} (hw : ∀ d ∈ tables_1, d.before a0 Z = true) : ((Jvm.Cond.native ({ cls := "java/lang/Object", name := "clone", desc := "()Ljava/lang/Object;" } : Jvm.MethodName))).before a0 Z = true := hw _ (List.mem_of_getElem? (i := 47) rfl)
theorem w48 {Z : State} {a0 : Array Value} (hw : ∀ d ∈ tables_1, d.before a0 Z = true) : ((Jvm.Cond.castable "[Lcom/example/sessn/sessn/session/Weights;" "java/lang/Cloneable")).before a0 Z = true := hw _ (List.mem_of_getElem? (i := 48) rfl)
theorem w49 {Z : State} {a0 : Array Value} (hw : ∀ d ∈ tables_1, d.before a0 Z = true) : ((Jvm.Cond.laysStatic "com/example/sessn/sessn/session/Weights" "PREV_CURRENT" "Lcom/example/sessn/sessn/session/Weights;")).before a0 Z = true := hw _ (List.mem_of_getElem? (i := 49) rfl)
theorem w50 {Z : State} {a0 : Array Value} (hw : ∀ d ∈ tables_1, d.before a0 Z = true) : ((Jvm.Cond.laysStatic "com/example/sessn/sessn/session/Weights" "DISTANCE" "Lcom/example/sessn/sessn/session/Weights;")).before a0 Z = true := hw _ (List.mem_of_getElem? (i := 50) rfl)
theorem w51 {Z : State} {a0 : Array Value} (hw : ∀ d ∈ tables_1, d.before a0 Z = true) : ((Jvm.Cond.initializedFor "com/example/sessn/sessn/session/Weights" "$VALUES" "[Lcom/example/sessn/sessn/session/Weights;")).before a0 Z = true := hw _ (List.mem_of_getElem? (i := 51) rfl)
theorem w52 {Z : State} {a0 : Array Value} (hw : ∀ d ∈ tables_1, d.before a0 Z = true) : ((Jvm.Cond.classLink "com/example/sessn/sessn/session/Weights" (18 : Nat) "[Lcom/example/sessn/sessn/session/Weights;")).before a0 Z = true := hw _ (List.mem_of_getElem? (i := 52) rfl)
theorem w54 {Z : State} {a0 : Array Value} (hw : ∀ d ∈ tables_1, d.before a0 Z = true) : ((Jvm.Cond.fieldLink "com/example/sessn/sessn/session/Weights" (32 : Nat) "com/example/sessn/sessn/session/Weights" "label" "Ljava/lang/String;")).before a0 Z = true := hw _ (List.mem_of_getElem? (i := 54) rfl)
theorem w56 {Z : State} {a0 : Array Value} (hw : ∀ d ∈ tables_1, d.before a0 Z = true) : ((Jvm.Cond.methodLink "com/example/sessn/sessn/session/Weights" (40 : Nat) ({ cls := "java/lang/String", name := "equals", desc := "(Ljava/lang/Object;)Z" } : Jvm.MethodName))).before a0 Z = true := hw _ (List.mem_of_getElem? (i := 56) rfl)
theorem w57 {Z : State} {a0 : Array Value} (hw : ∀ d ∈ tables_1, d.before a0 Z = true) : ((Jvm.Cond.declares ({ cls := "java/lang/String", name := "equals", desc := "(Ljava/lang/Object;)Z" } : Jvm.MethodName))).before a0 Z = true := hw _ (List.mem_of_getElem? (i := 57) rfl)
theorem w58 {Z : State} {a0 : Array Value} (hw : ∀ d ∈ tables_1, d.before a0 Z = true) : ((Jvm.Cond.instanceMethod ({ cls := "java/lang/String", name := "equals", desc := "(Ljava/lang/Object;)Z" } : Jvm.MethodName))).before a0 Z = true := hw _ (List.mem_of_getElem? (i := 58) rfl)
theorem w59 {Z : State} {a0 : Array Value} (hw : ∀ d ∈ tables_1, d.before a0 Z = true) : ((Jvm.Cond.selects "java/lang/String" ({ cls := "java/lang/String", name := "equals", desc := "(Ljava/lang/Object;)Z" } : Jvm.MethodName) ({ cls := "java/lang/String", name := "equals", desc := "(Ljava/lang/Object;)Z" } : Jvm.MethodName))).before a0 Z = true := hw _ (List.mem_of_getElem? (i := 59) rfl)
theorem w60 {Z : State} {a0 : Array Value} (hw : ∀ d ∈ tables_1, d.before a0 Z = true) : ((Jvm.Cond.code ({ cls := "java/lang/String", name := "equals", desc := "(Ljava/lang/Object;)Z" } : Jvm.MethodName) jdk_42_method_66_code (3 : Nat) (Option.some Jvm.ClassFile.FieldType.boolean))).before a0 Z = true := hw _ (List.mem_of_getElem? (i := 60) rfl)
theorem w61 {Z : State} {a0 : Array Value} (hw : ∀ d ∈ tables_1, d.before a0 Z = true) : ((Jvm.Cond.classLink "java/lang/String" (10 : Nat) "java/lang/String")).before a0 Z = true := hw _ (List.mem_of_getElem? (i := 61) rfl)
theorem w66 {Z : State} {a0 : Array Value} (hw : ∀ d ∈ tables_1, d.before a0 Z = true) : ((Jvm.Cond.fieldLink "com/example/sessn/sessn/session/WeightsLabelledPinLaw" (16 : Nat) "com/example/sessn/sessn/session/Weights" "DISTANCE" "Lcom/example/sessn/sessn/session/Weights;")).before a0 Z = true := hw _ (List.mem_of_getElem? (i := 66) rfl)
theorem w67 {Z : State} {a0 : Array Value} (hw : ∀ d ∈ tables_1, d.before a0 Z = true) : ((Jvm.Cond.fieldLink "com/example/sessn/sessn/session/WeightsLabelledPinLaw" (13 : Nat) "com/example/sessn/sessn/session/Weights" "PREV_CURRENT" "Lcom/example/sessn/sessn/session/Weights;")).before a0 Z = true := hw _ (List.mem_of_getElem? (i := 67) rfl)
theorem d7_0 : decode prog_28_method_5_code 0 = .ok (.aconst_null, 1) := by decide +kernel
theorem d7_1 : decode prog_28_method_5_code 1 = .ok (.astore_n 1, 1) := by decide +kernel
theorem d7_2 : decode prog_28_method_5_code 2 = .ok (.invokestatic 36, 3) := by decide +kernel
theorem d7_5 : decode prog_28_method_5_code 5 = .ok (.astore_n 2, 1) := by decide +kernel
theorem d7_6 : decode prog_28_method_5_code 6 = .ok (.aload_n 2, 1) := by decide +kernel
theorem d7_7 : decode prog_28_method_5_code 7 = .ok (.arraylength, 1) := by decide +kernel
theorem d7_8 : decode prog_28_method_5_code 8 = .ok (.istore_n 3, 1) := by decide +kernel
theorem d7_9 : decode prog_28_method_5_code 9 = .ok (.iconst 0, 1) := by decide +kernel
theorem d7_10 : decode prog_28_method_5_code 10 = .ok (.istore 4, 2) := by decide +kernel
theorem d7_12 : decode prog_28_method_5_code 12 = .ok (.iload 4, 2) := by decide +kernel
theorem d7_14 : decode prog_28_method_5_code 14 = .ok (.iload_n 3, 1) := by decide +kernel
theorem d7_15 : decode prog_28_method_5_code 15 = .ok (.if_icmp .ge 30, 3) := by decide +kernel
theorem d7_18 : decode prog_28_method_5_code 18 = .ok (.aload_n 2, 1) := by decide +kernel
theorem d7_19 : decode prog_28_method_5_code 19 = .ok (.iload 4, 2) := by decide +kernel
theorem d7_21 : decode prog_28_method_5_code 21 = .ok (.aaload, 1) := by decide +kernel
theorem d7_22 : decode prog_28_method_5_code 22 = .ok (.astore 5, 2) := by decide +kernel
theorem d7_24 : decode prog_28_method_5_code 24 = .ok (.aload 5, 2) := by decide +kernel
theorem d7_26 : decode prog_28_method_5_code 26 = .ok (.getfield 32, 3) := by decide +kernel
theorem d7_29 : decode prog_28_method_5_code 29 = .ok (.aload_n 0, 1) := by decide +kernel
theorem d7_30 : decode prog_28_method_5_code 30 = .ok (.invokevirtual 40, 3) := by decide +kernel
theorem d7_33 : decode prog_28_method_5_code 33 = .ok (.ifCond .eq 6, 3) := by decide +kernel
theorem d7_36 : decode prog_28_method_5_code 36 = .ok (.aload 5, 2) := by decide +kernel
theorem d7_38 : decode prog_28_method_5_code 38 = .ok (.astore_n 1, 1) := by decide +kernel
theorem d7_39 : decode prog_28_method_5_code 39 = .ok (.iinc 4 1, 3) := by decide +kernel
theorem d7_42 : decode prog_28_method_5_code 42 = .ok (.goto (-30), 3) := by decide +kernel
theorem d7_45 : decode prog_28_method_5_code 45 = .ok (.aload_n 1, 1) := by decide +kernel
theorem d7_46 : decode prog_28_method_5_code 46 = .ok (.areturn, 1) := by decide +kernel
theorem d8_0 : decode prog_28_method_1_code 0 = .ok (.getstatic 13, 3) := by decide +kernel
theorem d8_3 : decode prog_28_method_1_code 3 = .ok (.invokevirtual 17, 3) := by decide +kernel
theorem d8_6 : decode prog_28_method_1_code 6 = .ok (.checkcast 18, 3) := by decide +kernel
theorem d8_9 : decode prog_28_method_1_code 9 = .ok (.areturn, 1) := by decide +kernel
theorem d9_0 : decode jdk_42_method_66_code 0 = .ok (.aload_n 0, 1) := by decide +kernel
theorem d9_1 : decode jdk_42_method_66_code 1 = .ok (.aload_n 1, 1) := by decide +kernel
theorem d9_2 : decode jdk_42_method_66_code 2 = .ok (.if_acmp .ne 5, 3) := by decide +kernel
theorem d9_7 : decode jdk_42_method_66_code 7 = .ok (.aload_n 1, 1) := by decide +kernel
theorem d9_8 : decode jdk_42_method_66_code 8 = .ok (.instanceof 10, 3) := by decide +kernel
theorem d9_11 : decode jdk_42_method_66_code 11 = .ok (.ifCond .eq 43, 3) := by decide +kernel
theorem d9_54 : decode jdk_42_method_66_code 54 = .ok (.iconst 0, 1) := by decide +kernel
theorem d9_55 : decode jdk_42_method_66_code 55 = .ok (.ireturn, 1) := by decide +kernel
theorem pd0 : parseMethodDescriptor "([C)V" = some ⟨[(.array .char)], none⟩ := by decide +kernel
theorem pd1 : parseMethodDescriptor "()[Lcom/example/sessn/sessn/session/Weights;" = some ⟨[], some (.array (.object "com/example/sessn/sessn/session/Weights"))⟩ := by decide +kernel
theorem pd2 : parseMethodDescriptor "(Ljava/lang/Object;)Z" = some ⟨[(.object "java/lang/Object")], some .boolean⟩ := by decide +kernel
theorem pd3 : parseMethodDescriptor "(Ljava/lang/String;)Lcom/example/sessn/sessn/session/Weights;" = some ⟨[(.object "java/lang/String")], some (.object "com/example/sessn/sessn/session/Weights")⟩ := by decide +kernel
theorem pn0 : plainName "com/example/sessn/sessn/session/Weights" = true := by first | (simp [plainName, overriddenIn]; done) | decide +kernel
theorem pn1 : plainName "java/lang/String" = true := by first | (simp [plainName, overriddenIn]; done) | decide +kernel
theorem pn2 : plainName "com/example/sessn/sessn/session/WeightsLabelledPinLaw" = true := by first | (simp [plainName, overriddenIn]; done) | decide +kernel
theorem rm1 (l : Launch) (Z : State) (a0 : Array Value) (hw : ∀ d ∈ tables_1, d.before a0 Z = true) (gO1 gO2 gO4 gO6 : Addr) (k_gO2 : ClassId) (h0 : Heap) (O0 : Old Z Z.heap.size h0) (SgO2__VALUES : Sta Z Z.heap "com/example/sessn/sessn/session/Weights" "$VALUES" "[Lcom/example/sessn/sessn/session/Weights;" (.ref gO2)) (VgO2 : Arv Z Z.heap gO2 k_gO2 (.object "com/example/sessn/sessn/session/Weights") (3 : Int32) [(.ref gO1), (.ref gO4), (.ref gO6)] .null) (XgO2 : Exa Z Z.heap gO2 "[Lcom/example/sessn/sessn/session/Weights;") (FitgO2 : ∀ cl, Z.heap[gO2]? = some cl → FitC Z cl) :
    CtrN l Z (⟨"com/example/sessn/sessn/session/Weights", "values", "()[Lcom/example/sessn/sessn/session/Weights;"⟩ : MethodName) prog_28_method_1_code 0 (some (.array (.object "com/example/sessn/sessn/session/Weights"))) [] (⟨1, 1, 3, 14⟩ : Room) #[] h0 [] (fun v h => ∃ r1 : Addr, ∃ r2 : ClassId, h0.size ≤ r1 ∧ Arv Z h r1 r2 (.object "com/example/sessn/sessn/session/Weights") (3 : Int32) [(.ref gO1), (.ref gO4), (.ref gO6)] .null ∧ Exa Z h r1 "[Lcom/example/sessn/sessn/session/Weights;" ∧ v = some (.ref r1)) := by
  refine CtrN.intro (L0 := #[]) (plainFor_of_name pn0) O0 (own_entry rfl) ?_
  intro p e s m below meth c T0 hy hml hret hlk hnm W0
  refine o_getS W0 (w40 hw) Via.refl (SgO2__VALUES.ext W0.ox) (pc' := 3) (hb hy d8_0) rfl ?_
  intro T1 W1
  refine o_clone W1 (w42 hw) (w43 hw) (w47 hw) (w45 hw) (w46 hw) (w48 hw) VgO2 XgO2 FitgO2 (fun _ _ => trivial) (by rw [hml]; rfl) (pc' := 6) (hb hy d8_3) rfl (by decide) 0 (by exact Nat.le_of_eq rfl) (by decide) (cap := 3) (by decide) (cells' := 1) (slots' := 3) rfl rfl (by decide) (by decide) ?_
  intro b2 T2 h2 W2 E2 ge2 gz2 gb2 V2 A2
  refine o_cast W2 (w52 hw) (Ins.self A2) (pc' := 9) (hb hy d8_6) rfl ?_
  intro T3 W3
  exact o_retA W3 hlk (v := (.ref b2)) hret rfl rfl (hb hy d8_9) (by decide) (by decide) ⟨b2, k_gO2, gb2, V2, A2, rfl⟩
theorem rm2 (l : Launch) (Z : State) (a0 : Array Value) (hw : ∀ d ∈ tables_1, d.before a0 Z = true) (gCS : Int32) (gO1 gO2 gO4 gO6 gO8 gO9 gO10 gO11 gO12 gO13 : Addr) (k_gO2 k_gO9 k_gO11 k_gO13 : ClassId) (a1 a2 : Addr) (k_a2 : ClassId) (l1 : List Int32) (h0 : Heap) (O0 : Old Z Z.heap.size h0) (SgO2__VALUES : Sta Z Z.heap "com/example/sessn/sessn/session/Weights" "$VALUES" "[Lcom/example/sessn/sessn/session/Weights;" (.ref gO2)) (VgO2 : Arv Z Z.heap gO2 k_gO2 (.object "com/example/sessn/sessn/session/Weights") (3 : Int32) [(.ref gO1), (.ref gO4), (.ref gO6)] .null) (XgO2 : Exa Z Z.heap gO2 "[Lcom/example/sessn/sessn/session/Weights;") (FitgO2 : ∀ cl, Z.heap[gO2]? = some cl → FitC Z cl) (FgO1_label : Fld Z Z.heap gO1 "com/example/sessn/sessn/session/Weights" "label" "Ljava/lang/String;" (.ref gO8)) (SgCS : Sta Z Z.heap "java/lang/String" "COMPACT_STRINGS" "Z" (.int gCS)) (NgCS : ¬ (gCS = (0 : Int32))) (XgO8 : Exa Z Z.heap gO8 "java/lang/String") (FgO8_value : Fld Z Z.heap gO8 "java/lang/String" "value" "[B" (.ref gO9)) (FgO8_coder : Fld Z Z.heap gO8 "java/lang/String" "coder" "B" (.int 0)) (VgO9 : Arv Z Z.heap gO9 k_gO9 .byte (7 : Int32) [(.int 117), (.int 110), (.int 105), (.int 102), (.int 111), (.int 114), (.int 109)] (.int 0)) (E_a1 : Exa Z h0 a1 "java/lang/String") (F_a1_value : Fld Z h0 a1 "java/lang/String" "value" "[B" (.ref a2)) (F_a1_coder : Fld Z h0 a1 "java/lang/String" "coder" "B" (.int 0)) (V_a2 : Arv Z h0 a2 k_a2 .byte (Int32.ofNat (l1).length) ((l1).map fun c => Value.int (StrChars.lo8 c)) (.int 0)) (hu7 : own_ok l1) (hc11 : ¬ ((own_eq [(117 : Int32), (110 : Int32), (105 : Int32), (102 : Int32), (111 : Int32), (114 : Int32), (109 : Int32)] l1) = (0 : Int32))) (FgO4_label : Fld Z Z.heap gO4 "com/example/sessn/sessn/session/Weights" "label" "Ljava/lang/String;" (.ref gO10)) (XgO10 : Exa Z Z.heap gO10 "java/lang/String") (FgO10_value : Fld Z Z.heap gO10 "java/lang/String" "value" "[B" (.ref gO11)) (FgO10_coder : Fld Z Z.heap gO10 "java/lang/String" "coder" "B" (.int 0)) (VgO11 : Arv Z Z.heap gO11 k_gO11 .byte (12 : Int32) [(.int 112), (.int 114), (.int 101), (.int 118), (.int 45), (.int 99), (.int 117), (.int 114), (.int 114), (.int 101), (.int 110), (.int 116)] (.int 0)) (hc21 : (own_eq [(112 : Int32), (114 : Int32), (101 : Int32), (118 : Int32), (45 : Int32), (99 : Int32), (117 : Int32), (114 : Int32), (114 : Int32), (101 : Int32), (110 : Int32), (116 : Int32)] l1) = (0 : Int32)) (FgO6_label : Fld Z Z.heap gO6 "com/example/sessn/sessn/session/Weights" "label" "Ljava/lang/String;" (.ref gO12)) (XgO12 : Exa Z Z.heap gO12 "java/lang/String") (FgO12_value : Fld Z Z.heap gO12 "java/lang/String" "value" "[B" (.ref gO13)) (FgO12_coder : Fld Z Z.heap gO12 "java/lang/String" "coder" "B" (.int 0)) (VgO13 : Arv Z Z.heap gO13 k_gO13 .byte (8 : Int32) [(.int 100), (.int 105), (.int 115), (.int 116), (.int 97), (.int 110), (.int 99), (.int 101)] (.int 0)) (hc31 : (own_eq [(100 : Int32), (105 : Int32), (115 : Int32), (116 : Int32), (97 : Int32), (110 : Int32), (99 : Int32), (101 : Int32)] l1) = (0 : Int32)) :
    CtrN l Z (⟨"com/example/sessn/sessn/session/Weights", "labelled", "(Ljava/lang/String;)Lcom/example/sessn/sessn/session/Weights;"⟩ : MethodName) prog_28_method_5_code 6 (some (.object "com/example/sessn/sessn/session/Weights")) [] (⟨2, 1, 3, 28⟩ : Room) #[(.ref a1)] h0 [] (fun v h => v = some (.ref gO1)) := by
  refine CtrN.intro (L0 := #[.val (.ref a1), .unset, .unset, .unset, .unset, .unset]) (plainFor_of_name pn0) O0 (own_entry rfl) ?_
  intro p e s m below meth c T0 hy hml hret hlk hnm W0
  refine o_aconstNull W0 (pc' := 1) (hb hy d7_0) rfl ?_
  refine o_astoreN W0 (L' := #[.val (.ref a1), .val .null, .unset, .unset, .unset, .unset]) (pc' := 2) (hb hy d7_1) rfl rfl rfl ?_
  refine o_static W0 (y := (⟨"com/example/sessn/sessn/session/Weights", "values", "()[Lcom/example/sessn/sessn/session/Weights;"⟩ : MethodName)) (w37 hw) (w38 hw) (w2 hw) (w39 hw) (by decide) (argsL := []) (CtrN.back (Wd := 0) W0 (rm1 l Z a0 hw gO1 gO2 gO4 gO6 k_gO2 h0 W0.old SgO2__VALUES VgO2 XgO2 FitgO2) (w39 hw) (w2 hw) (by decide) (by decide)) (by rw [hml]; rfl) (lenOf pd1 rfl) (S := []) rfl (by exact Nat.le_of_eq rfl) (pc' := 5) (hb hy d7_2) rfl (cells' := 1) (slots' := 3) rfl rfl (by decide) (by decide) (wy := []) (fun _ _ _ q => ⟨q.1, q.2.1⟩) all0 (fun _ _ => trivial) ?_
  intro v1 T1 h1 lo1 W1 K1 q1
  obtain ⟨r1_1, r2_1, P1_0, P1_1, P1_2, rfl⟩ := q1.2.2
  show Gl _ _ _ _ _ _ _ _ [(.ref r1_1)]
  refine o_astoreN W1 (L' := #[.val (.ref a1), .val .null, .val (.ref r1_1), .unset, .unset, .unset]) (pc' := 6) (hb hy d7_5) rfl rfl rfl ?_
  refine o_aloadN W1 (pc' := 7) (hb hy d7_6) rfl rfl rfl ?_
  refine o_len W1 P1_1 (pc' := 8) (hb hy d7_7) rfl ?_
  refine o_istoreN W1 (L' := #[.val (.ref a1), .val .null, .val (.ref r1_1), .val (.int 3), .unset, .unset]) (pc' := 9) (hb hy d7_8) rfl rfl ?_
  refine o_iconst W1 (v := 0) (pc' := 10) (hb hy d7_9) rfl rfl ?_
  refine o_istore W1 (L' := #[.val (.ref a1), .val .null, .val (.ref r1_1), .val (.int 3), .val (.int 0), .unset]) (pc' := 12) (hb hy d7_10) rfl rfl ?_
  refine o_iload W1 (pc' := 14) (hb hy d7_12) rfl rfl ?_
  refine o_iloadN W1 (pc' := 15) (hb hy d7_14) rfl rfl ?_
  refine o_icmpN W1 (pc' := 18) (hb hy d7_15) (XT.ii_ge_f (by decide)) rfl ?_
  refine o_aloadN W1 (pc' := 19) (hb hy d7_18) rfl rfl rfl ?_
  refine o_iload W1 (pc' := 21) (hb hy d7_19) rfl rfl ?_
  refine o_aaload W1 P1_1 rfl (v := (.ref gO1)) (i := 0) (by decide) (by decide) (by decide) rfl (pc' := 22) (hb hy d7_21) rfl ?_
  refine o_astore W1 (L' := #[.val (.ref a1), .val .null, .val (.ref r1_1), .val (.int 3), .val (.int 0), .val (.ref gO1)]) (pc' := 24) (hb hy d7_22) rfl rfl rfl ?_
  refine o_aload W1 (pc' := 26) (hb hy d7_24) rfl rfl rfl ?_
  refine o_getF W1 (w54 hw) Via.refl (FgO1_label.ext W1.ox) (pc' := 29) (hb hy d7_26) rfl ?_
  intro T2 W2
  refine o_aloadN W2 (pc' := 30) (hb hy d7_29) rfl rfl rfl ?_
  have c3 := (E_a1.keep K1)
  have c4 := (F_a1_value.keep K1 nin0)
  have c5 := (F_a1_coder.keep K1 nin0)
  have c6 := (V_a2.keep K1 nin0)
  have ok8 : own_ok [(117 : Int32), (110 : Int32), (105 : Int32), (102 : Int32), (111 : Int32), (114 : Int32), (109 : Int32)] := ⟨by simp only [List.mem_cons, List.not_mem_nil, or_false, forall_eq_or_imp, forall_eq, false_imp_iff, implies_true]; exact ⟨(by unfold own_b; decide), (by unfold own_b; decide), (by unfold own_b; decide), (by unfold own_b; decide), (by unfold own_b; decide), (by unfold own_b; decide), (by unfold own_b; decide)⟩, Nat.le_of_ble_eq_true rfl⟩
  have ok9 : own_ok l1 := hu7
  refine o_virtual W2 (y := (⟨"java/lang/String", "equals", "(Ljava/lang/Object;)Z"⟩ : MethodName)) (z := (⟨"java/lang/String", "equals", "(Ljava/lang/Object;)Z"⟩ : MethodName)) (kc := 0) (ks := 0) (Q := fun v hh L => ((v = some (.int 1) ∧ [(117 : Int32), (110 : Int32), (105 : Int32), (102 : Int32), (111 : Int32), (114 : Int32), (109 : Int32)] = l1) ∨ (v = some (.int 0) ∧ ¬ [(117 : Int32), (110 : Int32), (105 : Int32), (102 : Int32), (111 : Int32), (114 : Int32), (109 : Int32)] = l1)) ∧ L = [] ∧ hh = h1) (w56 hw) (w57 hw) (o_nf W2 rfl (w59 hw)) (w59 hw) (w58 hw) (by decide) (XgO8.ext W2.ox) (argsL := [(.ref a1)]) (StrChars.Road.eqW (W := 0) W2.2.2.2.1 (own_hE hw) (kI := 4) (w6 hw) (XgO8.ext W2.ox) (FgO8_value.ext W2.ox) (FgO8_coder.ext W2.ox) (VgO9.ext W2.ox) (own_codE ok8 rfl rfl) (own_up ok8) ok8.2 c3 c4 c5 c6 (own_cod ok9) (own_up ok9) ok9.2 (SgCS.ext W2.ox) NgCS (by decide) (by decide)) (by rw [hml]; rfl) (lenOf pd2 rfl) (S := []) rfl (by exact Nat.le_of_eq rfl) (pc' := 33) (hb hy d7_30) rfl (cells' := 1) (slots' := 3) rfl rfl (by decide) (by decide) (wy := []) (fun _ _ _ q => own_same q.2) all0 (fun _ _ => trivial) ?_
  intro v10 T10 h10 lo10 W10 K10 q10
  obtain rfl := own_eqv q10.1
  show Gl _ _ _ _ _ _ _ _ [(.int (own_eq [(117 : Int32), (110 : Int32), (105 : Int32), (102 : Int32), (111 : Int32), (114 : Int32), (109 : Int32)] l1))]
  refine o_ifN W10 (pc' := 36) (hb hy d7_33) (XT.i0_eq_f hc11) rfl ?_
  refine o_aload W10 (pc' := 38) (hb hy d7_36) rfl rfl rfl ?_
  refine o_astoreN W10 (L' := #[.val (.ref a1), .val (.ref gO1), .val (.ref r1_1), .val (.int 3), .val (.int 0), .val (.ref gO1)]) (pc' := 39) (hb hy d7_38) rfl rfl rfl ?_
  refine o_iinc W10 (v := 1) (L' := #[.val (.ref a1), .val (.ref gO1), .val (.ref r1_1), .val (.int 3), .val (.int 1), .val (.ref gO1)]) (pc' := 42) (hb hy d7_39) rfl (by decide) rfl rfl ?_
  refine o_goto W10 (pc' := 12) (hb hy d7_42) (by decide) rfl ?_
  refine o_iload W10 (pc' := 14) (hb hy d7_12) rfl rfl ?_
  refine o_iloadN W10 (pc' := 15) (hb hy d7_14) rfl rfl ?_
  refine o_icmpN W10 (pc' := 18) (hb hy d7_15) (XT.ii_ge_f (by decide)) rfl ?_
  refine o_aloadN W10 (pc' := 19) (hb hy d7_18) rfl rfl rfl ?_
  refine o_iload W10 (pc' := 21) (hb hy d7_19) rfl rfl ?_
  have c12 := (P1_1.keep K10 nin0)
  refine o_aaload W10 c12 rfl (v := (.ref gO4)) (i := 1) (by decide) (by decide) (by decide) rfl (pc' := 22) (hb hy d7_21) rfl ?_
  refine o_astore W10 (L' := #[.val (.ref a1), .val (.ref gO1), .val (.ref r1_1), .val (.int 3), .val (.int 1), .val (.ref gO4)]) (pc' := 24) (hb hy d7_22) rfl rfl rfl ?_
  refine o_aload W10 (pc' := 26) (hb hy d7_24) rfl rfl rfl ?_
  refine o_getF W10 (w54 hw) Via.refl (FgO4_label.ext W10.ox) (pc' := 29) (hb hy d7_26) rfl ?_
  intro T13 W13
  refine o_aloadN W13 (pc' := 30) (hb hy d7_29) rfl rfl rfl ?_
  have c14 := (c3.keep K10)
  have c15 := (c4.keep K10 nin0)
  have c16 := (c5.keep K10 nin0)
  have c17 := (c6.keep K10 nin0)
  have ok18 : own_ok [(112 : Int32), (114 : Int32), (101 : Int32), (118 : Int32), (45 : Int32), (99 : Int32), (117 : Int32), (114 : Int32), (114 : Int32), (101 : Int32), (110 : Int32), (116 : Int32)] := ⟨by simp only [List.mem_cons, List.not_mem_nil, or_false, forall_eq_or_imp, forall_eq, false_imp_iff, implies_true]; exact ⟨(by unfold own_b; decide), (by unfold own_b; decide), (by unfold own_b; decide), (by unfold own_b; decide), (by unfold own_b; decide), (by unfold own_b; decide), (by unfold own_b; decide), (by unfold own_b; decide), (by unfold own_b; decide), (by unfold own_b; decide), (by unfold own_b; decide), (by unfold own_b; decide)⟩, Nat.le_of_ble_eq_true rfl⟩
  have ok19 : own_ok l1 := hu7
  refine o_virtual W13 (y := (⟨"java/lang/String", "equals", "(Ljava/lang/Object;)Z"⟩ : MethodName)) (z := (⟨"java/lang/String", "equals", "(Ljava/lang/Object;)Z"⟩ : MethodName)) (kc := 0) (ks := 0) (Q := fun v hh L => ((v = some (.int 1) ∧ [(112 : Int32), (114 : Int32), (101 : Int32), (118 : Int32), (45 : Int32), (99 : Int32), (117 : Int32), (114 : Int32), (114 : Int32), (101 : Int32), (110 : Int32), (116 : Int32)] = l1) ∨ (v = some (.int 0) ∧ ¬ [(112 : Int32), (114 : Int32), (101 : Int32), (118 : Int32), (45 : Int32), (99 : Int32), (117 : Int32), (114 : Int32), (114 : Int32), (101 : Int32), (110 : Int32), (116 : Int32)] = l1)) ∧ L = [] ∧ hh = h10) (w56 hw) (w57 hw) (o_nf W13 rfl (w59 hw)) (w59 hw) (w58 hw) (by decide) (XgO10.ext W13.ox) (argsL := [(.ref a1)]) (StrChars.Road.eqW (W := 0) W13.2.2.2.1 (own_hE hw) (kI := 4) (w6 hw) (XgO10.ext W13.ox) (FgO10_value.ext W13.ox) (FgO10_coder.ext W13.ox) (VgO11.ext W13.ox) (own_codE ok18 rfl rfl) (own_up ok18) ok18.2 c14 c15 c16 c17 (own_cod ok19) (own_up ok19) ok19.2 (SgCS.ext W13.ox) NgCS (by decide) (by decide)) (by rw [hml]; rfl) (lenOf pd2 rfl) (S := []) rfl (by exact Nat.le_of_eq rfl) (pc' := 33) (hb hy d7_30) rfl (cells' := 1) (slots' := 3) rfl rfl (by decide) (by decide) (wy := []) (fun _ _ _ q => own_same q.2) all0 (fun _ _ => trivial) ?_
  intro v20 T20 h20 lo20 W20 K20 q20
  obtain rfl := own_eqv q20.1
  show Gl _ _ _ _ _ _ _ _ [(.int (own_eq [(112 : Int32), (114 : Int32), (101 : Int32), (118 : Int32), (45 : Int32), (99 : Int32), (117 : Int32), (114 : Int32), (114 : Int32), (101 : Int32), (110 : Int32), (116 : Int32)] l1))]
  refine o_ifY W20 (pc' := 39) (hb hy d7_33) (XT.i0_eq_t hc21) (by decide) rfl ?_
  refine o_iinc W20 (v := 2) (L' := #[.val (.ref a1), .val (.ref gO1), .val (.ref r1_1), .val (.int 3), .val (.int 2), .val (.ref gO4)]) (pc' := 42) (hb hy d7_39) rfl (by decide) rfl rfl ?_
  refine o_goto W20 (pc' := 12) (hb hy d7_42) (by decide) rfl ?_
  refine o_iload W20 (pc' := 14) (hb hy d7_12) rfl rfl ?_
  refine o_iloadN W20 (pc' := 15) (hb hy d7_14) rfl rfl ?_
  refine o_icmpN W20 (pc' := 18) (hb hy d7_15) (XT.ii_ge_f (by decide)) rfl ?_
  refine o_aloadN W20 (pc' := 19) (hb hy d7_18) rfl rfl rfl ?_
  refine o_iload W20 (pc' := 21) (hb hy d7_19) rfl rfl ?_
  have c22 := (c12.keep K20 nin0)
  refine o_aaload W20 c22 rfl (v := (.ref gO6)) (i := 2) (by decide) (by decide) (by decide) rfl (pc' := 22) (hb hy d7_21) rfl ?_
  refine o_astore W20 (L' := #[.val (.ref a1), .val (.ref gO1), .val (.ref r1_1), .val (.int 3), .val (.int 2), .val (.ref gO6)]) (pc' := 24) (hb hy d7_22) rfl rfl rfl ?_
  refine o_aload W20 (pc' := 26) (hb hy d7_24) rfl rfl rfl ?_
  refine o_getF W20 (w54 hw) Via.refl (FgO6_label.ext W20.ox) (pc' := 29) (hb hy d7_26) rfl ?_
  intro T23 W23
  refine o_aloadN W23 (pc' := 30) (hb hy d7_29) rfl rfl rfl ?_
  have c24 := (c14.keep K20)
  have c25 := (c15.keep K20 nin0)
  have c26 := (c16.keep K20 nin0)
  have c27 := (c17.keep K20 nin0)
  have ok28 : own_ok [(100 : Int32), (105 : Int32), (115 : Int32), (116 : Int32), (97 : Int32), (110 : Int32), (99 : Int32), (101 : Int32)] := ⟨by simp only [List.mem_cons, List.not_mem_nil, or_false, forall_eq_or_imp, forall_eq, false_imp_iff, implies_true]; exact ⟨(by unfold own_b; decide), (by unfold own_b; decide), (by unfold own_b; decide), (by unfold own_b; decide), (by unfold own_b; decide), (by unfold own_b; decide), (by unfold own_b; decide), (by unfold own_b; decide)⟩, Nat.le_of_ble_eq_true rfl⟩
  have ok29 : own_ok l1 := hu7
  refine o_virtual W23 (y := (⟨"java/lang/String", "equals", "(Ljava/lang/Object;)Z"⟩ : MethodName)) (z := (⟨"java/lang/String", "equals", "(Ljava/lang/Object;)Z"⟩ : MethodName)) (kc := 0) (ks := 0) (Q := fun v hh L => ((v = some (.int 1) ∧ [(100 : Int32), (105 : Int32), (115 : Int32), (116 : Int32), (97 : Int32), (110 : Int32), (99 : Int32), (101 : Int32)] = l1) ∨ (v = some (.int 0) ∧ ¬ [(100 : Int32), (105 : Int32), (115 : Int32), (116 : Int32), (97 : Int32), (110 : Int32), (99 : Int32), (101 : Int32)] = l1)) ∧ L = [] ∧ hh = h20) (w56 hw) (w57 hw) (o_nf W23 rfl (w59 hw)) (w59 hw) (w58 hw) (by decide) (XgO12.ext W23.ox) (argsL := [(.ref a1)]) (StrChars.Road.eqW (W := 0) W23.2.2.2.1 (own_hE hw) (kI := 4) (w6 hw) (XgO12.ext W23.ox) (FgO12_value.ext W23.ox) (FgO12_coder.ext W23.ox) (VgO13.ext W23.ox) (own_codE ok28 rfl rfl) (own_up ok28) ok28.2 c24 c25 c26 c27 (own_cod ok29) (own_up ok29) ok29.2 (SgCS.ext W23.ox) NgCS (by decide) (by decide)) (by rw [hml]; rfl) (lenOf pd2 rfl) (S := []) rfl (by exact Nat.le_of_eq rfl) (pc' := 33) (hb hy d7_30) rfl (cells' := 1) (slots' := 3) rfl rfl (by decide) (by decide) (wy := []) (fun _ _ _ q => own_same q.2) all0 (fun _ _ => trivial) ?_
  intro v30 T30 h30 lo30 W30 K30 q30
  obtain rfl := own_eqv q30.1
  show Gl _ _ _ _ _ _ _ _ [(.int (own_eq [(100 : Int32), (105 : Int32), (115 : Int32), (116 : Int32), (97 : Int32), (110 : Int32), (99 : Int32), (101 : Int32)] l1))]
  refine o_ifY W30 (pc' := 39) (hb hy d7_33) (XT.i0_eq_t hc31) (by decide) rfl ?_
  refine o_iinc W30 (v := 3) (L' := #[.val (.ref a1), .val (.ref gO1), .val (.ref r1_1), .val (.int 3), .val (.int 3), .val (.ref gO6)]) (pc' := 42) (hb hy d7_39) rfl (by decide) rfl rfl ?_
  refine o_goto W30 (pc' := 12) (hb hy d7_42) (by decide) rfl ?_
  refine o_iload W30 (pc' := 14) (hb hy d7_12) rfl rfl ?_
  refine o_iloadN W30 (pc' := 15) (hb hy d7_14) rfl rfl ?_
  refine o_icmpY W30 (pc' := 45) (hb hy d7_15) (XT.ii_ge_t (by decide)) (by decide) rfl ?_
  refine o_aloadN W30 (pc' := 46) (hb hy d7_45) rfl rfl rfl ?_
  exact o_retA W30 hlk (v := (.ref gO1)) hret rfl rfl (hb hy d7_46) (by decide) (by decide) rfl
theorem rm3 (l : Launch) (Z : State) (a0 : Array Value) (hw : ∀ d ∈ tables_1, d.before a0 Z = true) (gCS : Int32) (gO1 gO2 gO4 gO6 gO8 gO9 gO10 gO11 gO12 gO13 : Addr) (k_gO2 k_gO9 k_gO11 k_gO13 : ClassId) (a1 a2 : Addr) (k_a2 : ClassId) (l1 : List Int32) (h0 : Heap) (O0 : Old Z Z.heap.size h0) (SgO2__VALUES : Sta Z Z.heap "com/example/sessn/sessn/session/Weights" "$VALUES" "[Lcom/example/sessn/sessn/session/Weights;" (.ref gO2)) (VgO2 : Arv Z Z.heap gO2 k_gO2 (.object "com/example/sessn/sessn/session/Weights") (3 : Int32) [(.ref gO1), (.ref gO4), (.ref gO6)] .null) (XgO2 : Exa Z Z.heap gO2 "[Lcom/example/sessn/sessn/session/Weights;") (FitgO2 : ∀ cl, Z.heap[gO2]? = some cl → FitC Z cl) (FgO1_label : Fld Z Z.heap gO1 "com/example/sessn/sessn/session/Weights" "label" "Ljava/lang/String;" (.ref gO8)) (SgCS : Sta Z Z.heap "java/lang/String" "COMPACT_STRINGS" "Z" (.int gCS)) (NgCS : ¬ (gCS = (0 : Int32))) (XgO8 : Exa Z Z.heap gO8 "java/lang/String") (FgO8_value : Fld Z Z.heap gO8 "java/lang/String" "value" "[B" (.ref gO9)) (FgO8_coder : Fld Z Z.heap gO8 "java/lang/String" "coder" "B" (.int 0)) (VgO9 : Arv Z Z.heap gO9 k_gO9 .byte (7 : Int32) [(.int 117), (.int 110), (.int 105), (.int 102), (.int 111), (.int 114), (.int 109)] (.int 0)) (E_a1 : Exa Z h0 a1 "java/lang/String") (F_a1_value : Fld Z h0 a1 "java/lang/String" "value" "[B" (.ref a2)) (F_a1_coder : Fld Z h0 a1 "java/lang/String" "coder" "B" (.int 0)) (V_a2 : Arv Z h0 a2 k_a2 .byte (Int32.ofNat (l1).length) ((l1).map fun c => Value.int (StrChars.lo8 c)) (.int 0)) (hu7 : own_ok l1) (hc11 : (own_eq [(117 : Int32), (110 : Int32), (105 : Int32), (102 : Int32), (111 : Int32), (114 : Int32), (109 : Int32)] l1) = (0 : Int32)) (FgO4_label : Fld Z Z.heap gO4 "com/example/sessn/sessn/session/Weights" "label" "Ljava/lang/String;" (.ref gO10)) (XgO10 : Exa Z Z.heap gO10 "java/lang/String") (FgO10_value : Fld Z Z.heap gO10 "java/lang/String" "value" "[B" (.ref gO11)) (FgO10_coder : Fld Z Z.heap gO10 "java/lang/String" "coder" "B" (.int 0)) (VgO11 : Arv Z Z.heap gO11 k_gO11 .byte (12 : Int32) [(.int 112), (.int 114), (.int 101), (.int 118), (.int 45), (.int 99), (.int 117), (.int 114), (.int 114), (.int 101), (.int 110), (.int 116)] (.int 0)) (hc21 : ¬ ((own_eq [(112 : Int32), (114 : Int32), (101 : Int32), (118 : Int32), (45 : Int32), (99 : Int32), (117 : Int32), (114 : Int32), (114 : Int32), (101 : Int32), (110 : Int32), (116 : Int32)] l1) = (0 : Int32))) (FgO6_label : Fld Z Z.heap gO6 "com/example/sessn/sessn/session/Weights" "label" "Ljava/lang/String;" (.ref gO12)) (XgO12 : Exa Z Z.heap gO12 "java/lang/String") (FgO12_value : Fld Z Z.heap gO12 "java/lang/String" "value" "[B" (.ref gO13)) (FgO12_coder : Fld Z Z.heap gO12 "java/lang/String" "coder" "B" (.int 0)) (VgO13 : Arv Z Z.heap gO13 k_gO13 .byte (8 : Int32) [(.int 100), (.int 105), (.int 115), (.int 116), (.int 97), (.int 110), (.int 99), (.int 101)] (.int 0)) (hc31 : (own_eq [(100 : Int32), (105 : Int32), (115 : Int32), (116 : Int32), (97 : Int32), (110 : Int32), (99 : Int32), (101 : Int32)] l1) = (0 : Int32)) :
    CtrN l Z (⟨"com/example/sessn/sessn/session/Weights", "labelled", "(Ljava/lang/String;)Lcom/example/sessn/sessn/session/Weights;"⟩ : MethodName) prog_28_method_5_code 6 (some (.object "com/example/sessn/sessn/session/Weights")) [] (⟨2, 1, 3, 28⟩ : Room) #[(.ref a1)] h0 [] (fun v h => v = some (.ref gO4)) := by
  refine CtrN.intro (L0 := #[.val (.ref a1), .unset, .unset, .unset, .unset, .unset]) (plainFor_of_name pn0) O0 (own_entry rfl) ?_
  intro p e s m below meth c T0 hy hml hret hlk hnm W0
  refine o_aconstNull W0 (pc' := 1) (hb hy d7_0) rfl ?_
  refine o_astoreN W0 (L' := #[.val (.ref a1), .val .null, .unset, .unset, .unset, .unset]) (pc' := 2) (hb hy d7_1) rfl rfl rfl ?_
  refine o_static W0 (y := (⟨"com/example/sessn/sessn/session/Weights", "values", "()[Lcom/example/sessn/sessn/session/Weights;"⟩ : MethodName)) (w37 hw) (w38 hw) (w2 hw) (w39 hw) (by decide) (argsL := []) (CtrN.back (Wd := 0) W0 (rm1 l Z a0 hw gO1 gO2 gO4 gO6 k_gO2 h0 W0.old SgO2__VALUES VgO2 XgO2 FitgO2) (w39 hw) (w2 hw) (by decide) (by decide)) (by rw [hml]; rfl) (lenOf pd1 rfl) (S := []) rfl (by exact Nat.le_of_eq rfl) (pc' := 5) (hb hy d7_2) rfl (cells' := 1) (slots' := 3) rfl rfl (by decide) (by decide) (wy := []) (fun _ _ _ q => ⟨q.1, q.2.1⟩) all0 (fun _ _ => trivial) ?_
  intro v1 T1 h1 lo1 W1 K1 q1
  obtain ⟨r1_1, r2_1, P1_0, P1_1, P1_2, rfl⟩ := q1.2.2
  show Gl _ _ _ _ _ _ _ _ [(.ref r1_1)]
  refine o_astoreN W1 (L' := #[.val (.ref a1), .val .null, .val (.ref r1_1), .unset, .unset, .unset]) (pc' := 6) (hb hy d7_5) rfl rfl rfl ?_
  refine o_aloadN W1 (pc' := 7) (hb hy d7_6) rfl rfl rfl ?_
  refine o_len W1 P1_1 (pc' := 8) (hb hy d7_7) rfl ?_
  refine o_istoreN W1 (L' := #[.val (.ref a1), .val .null, .val (.ref r1_1), .val (.int 3), .unset, .unset]) (pc' := 9) (hb hy d7_8) rfl rfl ?_
  refine o_iconst W1 (v := 0) (pc' := 10) (hb hy d7_9) rfl rfl ?_
  refine o_istore W1 (L' := #[.val (.ref a1), .val .null, .val (.ref r1_1), .val (.int 3), .val (.int 0), .unset]) (pc' := 12) (hb hy d7_10) rfl rfl ?_
  refine o_iload W1 (pc' := 14) (hb hy d7_12) rfl rfl ?_
  refine o_iloadN W1 (pc' := 15) (hb hy d7_14) rfl rfl ?_
  refine o_icmpN W1 (pc' := 18) (hb hy d7_15) (XT.ii_ge_f (by decide)) rfl ?_
  refine o_aloadN W1 (pc' := 19) (hb hy d7_18) rfl rfl rfl ?_
  refine o_iload W1 (pc' := 21) (hb hy d7_19) rfl rfl ?_
  refine o_aaload W1 P1_1 rfl (v := (.ref gO1)) (i := 0) (by decide) (by decide) (by decide) rfl (pc' := 22) (hb hy d7_21) rfl ?_
  refine o_astore W1 (L' := #[.val (.ref a1), .val .null, .val (.ref r1_1), .val (.int 3), .val (.int 0), .val (.ref gO1)]) (pc' := 24) (hb hy d7_22) rfl rfl rfl ?_
  refine o_aload W1 (pc' := 26) (hb hy d7_24) rfl rfl rfl ?_
  refine o_getF W1 (w54 hw) Via.refl (FgO1_label.ext W1.ox) (pc' := 29) (hb hy d7_26) rfl ?_
  intro T2 W2
  refine o_aloadN W2 (pc' := 30) (hb hy d7_29) rfl rfl rfl ?_
  have c3 := (E_a1.keep K1)
  have c4 := (F_a1_value.keep K1 nin0)
  have c5 := (F_a1_coder.keep K1 nin0)
  have c6 := (V_a2.keep K1 nin0)
  have ok8 : own_ok [(117 : Int32), (110 : Int32), (105 : Int32), (102 : Int32), (111 : Int32), (114 : Int32), (109 : Int32)] := ⟨by simp only [List.mem_cons, List.not_mem_nil, or_false, forall_eq_or_imp, forall_eq, false_imp_iff, implies_true]; exact ⟨(by unfold own_b; decide), (by unfold own_b; decide), (by unfold own_b; decide), (by unfold own_b; decide), (by unfold own_b; decide), (by unfold own_b; decide), (by unfold own_b; decide)⟩, Nat.le_of_ble_eq_true rfl⟩
  have ok9 : own_ok l1 := hu7
  refine o_virtual W2 (y := (⟨"java/lang/String", "equals", "(Ljava/lang/Object;)Z"⟩ : MethodName)) (z := (⟨"java/lang/String", "equals", "(Ljava/lang/Object;)Z"⟩ : MethodName)) (kc := 0) (ks := 0) (Q := fun v hh L => ((v = some (.int 1) ∧ [(117 : Int32), (110 : Int32), (105 : Int32), (102 : Int32), (111 : Int32), (114 : Int32), (109 : Int32)] = l1) ∨ (v = some (.int 0) ∧ ¬ [(117 : Int32), (110 : Int32), (105 : Int32), (102 : Int32), (111 : Int32), (114 : Int32), (109 : Int32)] = l1)) ∧ L = [] ∧ hh = h1) (w56 hw) (w57 hw) (o_nf W2 rfl (w59 hw)) (w59 hw) (w58 hw) (by decide) (XgO8.ext W2.ox) (argsL := [(.ref a1)]) (StrChars.Road.eqW (W := 0) W2.2.2.2.1 (own_hE hw) (kI := 4) (w6 hw) (XgO8.ext W2.ox) (FgO8_value.ext W2.ox) (FgO8_coder.ext W2.ox) (VgO9.ext W2.ox) (own_codE ok8 rfl rfl) (own_up ok8) ok8.2 c3 c4 c5 c6 (own_cod ok9) (own_up ok9) ok9.2 (SgCS.ext W2.ox) NgCS (by decide) (by decide)) (by rw [hml]; rfl) (lenOf pd2 rfl) (S := []) rfl (by exact Nat.le_of_eq rfl) (pc' := 33) (hb hy d7_30) rfl (cells' := 1) (slots' := 3) rfl rfl (by decide) (by decide) (wy := []) (fun _ _ _ q => own_same q.2) all0 (fun _ _ => trivial) ?_
  intro v10 T10 h10 lo10 W10 K10 q10
  obtain rfl := own_eqv q10.1
  show Gl _ _ _ _ _ _ _ _ [(.int (own_eq [(117 : Int32), (110 : Int32), (105 : Int32), (102 : Int32), (111 : Int32), (114 : Int32), (109 : Int32)] l1))]
  refine o_ifY W10 (pc' := 39) (hb hy d7_33) (XT.i0_eq_t hc11) (by decide) rfl ?_
  refine o_iinc W10 (v := 1) (L' := #[.val (.ref a1), .val .null, .val (.ref r1_1), .val (.int 3), .val (.int 1), .val (.ref gO1)]) (pc' := 42) (hb hy d7_39) rfl (by decide) rfl rfl ?_
  refine o_goto W10 (pc' := 12) (hb hy d7_42) (by decide) rfl ?_
  refine o_iload W10 (pc' := 14) (hb hy d7_12) rfl rfl ?_
  refine o_iloadN W10 (pc' := 15) (hb hy d7_14) rfl rfl ?_
  refine o_icmpN W10 (pc' := 18) (hb hy d7_15) (XT.ii_ge_f (by decide)) rfl ?_
  refine o_aloadN W10 (pc' := 19) (hb hy d7_18) rfl rfl rfl ?_
  refine o_iload W10 (pc' := 21) (hb hy d7_19) rfl rfl ?_
  have c12 := (P1_1.keep K10 nin0)
  refine o_aaload W10 c12 rfl (v := (.ref gO4)) (i := 1) (by decide) (by decide) (by decide) rfl (pc' := 22) (hb hy d7_21) rfl ?_
  refine o_astore W10 (L' := #[.val (.ref a1), .val .null, .val (.ref r1_1), .val (.int 3), .val (.int 1), .val (.ref gO4)]) (pc' := 24) (hb hy d7_22) rfl rfl rfl ?_
  refine o_aload W10 (pc' := 26) (hb hy d7_24) rfl rfl rfl ?_
  refine o_getF W10 (w54 hw) Via.refl (FgO4_label.ext W10.ox) (pc' := 29) (hb hy d7_26) rfl ?_
  intro T13 W13
  refine o_aloadN W13 (pc' := 30) (hb hy d7_29) rfl rfl rfl ?_
  have c14 := (c3.keep K10)
  have c15 := (c4.keep K10 nin0)
  have c16 := (c5.keep K10 nin0)
  have c17 := (c6.keep K10 nin0)
  have ok18 : own_ok [(112 : Int32), (114 : Int32), (101 : Int32), (118 : Int32), (45 : Int32), (99 : Int32), (117 : Int32), (114 : Int32), (114 : Int32), (101 : Int32), (110 : Int32), (116 : Int32)] := ⟨by simp only [List.mem_cons, List.not_mem_nil, or_false, forall_eq_or_imp, forall_eq, false_imp_iff, implies_true]; exact ⟨(by unfold own_b; decide), (by unfold own_b; decide), (by unfold own_b; decide), (by unfold own_b; decide), (by unfold own_b; decide), (by unfold own_b; decide), (by unfold own_b; decide), (by unfold own_b; decide), (by unfold own_b; decide), (by unfold own_b; decide), (by unfold own_b; decide), (by unfold own_b; decide)⟩, Nat.le_of_ble_eq_true rfl⟩
  have ok19 : own_ok l1 := hu7
  refine o_virtual W13 (y := (⟨"java/lang/String", "equals", "(Ljava/lang/Object;)Z"⟩ : MethodName)) (z := (⟨"java/lang/String", "equals", "(Ljava/lang/Object;)Z"⟩ : MethodName)) (kc := 0) (ks := 0) (Q := fun v hh L => ((v = some (.int 1) ∧ [(112 : Int32), (114 : Int32), (101 : Int32), (118 : Int32), (45 : Int32), (99 : Int32), (117 : Int32), (114 : Int32), (114 : Int32), (101 : Int32), (110 : Int32), (116 : Int32)] = l1) ∨ (v = some (.int 0) ∧ ¬ [(112 : Int32), (114 : Int32), (101 : Int32), (118 : Int32), (45 : Int32), (99 : Int32), (117 : Int32), (114 : Int32), (114 : Int32), (101 : Int32), (110 : Int32), (116 : Int32)] = l1)) ∧ L = [] ∧ hh = h10) (w56 hw) (w57 hw) (o_nf W13 rfl (w59 hw)) (w59 hw) (w58 hw) (by decide) (XgO10.ext W13.ox) (argsL := [(.ref a1)]) (StrChars.Road.eqW (W := 0) W13.2.2.2.1 (own_hE hw) (kI := 4) (w6 hw) (XgO10.ext W13.ox) (FgO10_value.ext W13.ox) (FgO10_coder.ext W13.ox) (VgO11.ext W13.ox) (own_codE ok18 rfl rfl) (own_up ok18) ok18.2 c14 c15 c16 c17 (own_cod ok19) (own_up ok19) ok19.2 (SgCS.ext W13.ox) NgCS (by decide) (by decide)) (by rw [hml]; rfl) (lenOf pd2 rfl) (S := []) rfl (by exact Nat.le_of_eq rfl) (pc' := 33) (hb hy d7_30) rfl (cells' := 1) (slots' := 3) rfl rfl (by decide) (by decide) (wy := []) (fun _ _ _ q => own_same q.2) all0 (fun _ _ => trivial) ?_
  intro v20 T20 h20 lo20 W20 K20 q20
  obtain rfl := own_eqv q20.1
  show Gl _ _ _ _ _ _ _ _ [(.int (own_eq [(112 : Int32), (114 : Int32), (101 : Int32), (118 : Int32), (45 : Int32), (99 : Int32), (117 : Int32), (114 : Int32), (114 : Int32), (101 : Int32), (110 : Int32), (116 : Int32)] l1))]
  refine o_ifN W20 (pc' := 36) (hb hy d7_33) (XT.i0_eq_f hc21) rfl ?_
  refine o_aload W20 (pc' := 38) (hb hy d7_36) rfl rfl rfl ?_
  refine o_astoreN W20 (L' := #[.val (.ref a1), .val (.ref gO4), .val (.ref r1_1), .val (.int 3), .val (.int 1), .val (.ref gO4)]) (pc' := 39) (hb hy d7_38) rfl rfl rfl ?_
  refine o_iinc W20 (v := 2) (L' := #[.val (.ref a1), .val (.ref gO4), .val (.ref r1_1), .val (.int 3), .val (.int 2), .val (.ref gO4)]) (pc' := 42) (hb hy d7_39) rfl (by decide) rfl rfl ?_
  refine o_goto W20 (pc' := 12) (hb hy d7_42) (by decide) rfl ?_
  refine o_iload W20 (pc' := 14) (hb hy d7_12) rfl rfl ?_
  refine o_iloadN W20 (pc' := 15) (hb hy d7_14) rfl rfl ?_
  refine o_icmpN W20 (pc' := 18) (hb hy d7_15) (XT.ii_ge_f (by decide)) rfl ?_
  refine o_aloadN W20 (pc' := 19) (hb hy d7_18) rfl rfl rfl ?_
  refine o_iload W20 (pc' := 21) (hb hy d7_19) rfl rfl ?_
  have c22 := (c12.keep K20 nin0)
  refine o_aaload W20 c22 rfl (v := (.ref gO6)) (i := 2) (by decide) (by decide) (by decide) rfl (pc' := 22) (hb hy d7_21) rfl ?_
  refine o_astore W20 (L' := #[.val (.ref a1), .val (.ref gO4), .val (.ref r1_1), .val (.int 3), .val (.int 2), .val (.ref gO6)]) (pc' := 24) (hb hy d7_22) rfl rfl rfl ?_
  refine o_aload W20 (pc' := 26) (hb hy d7_24) rfl rfl rfl ?_
  refine o_getF W20 (w54 hw) Via.refl (FgO6_label.ext W20.ox) (pc' := 29) (hb hy d7_26) rfl ?_
  intro T23 W23
  refine o_aloadN W23 (pc' := 30) (hb hy d7_29) rfl rfl rfl ?_
  have c24 := (c14.keep K20)
  have c25 := (c15.keep K20 nin0)
  have c26 := (c16.keep K20 nin0)
  have c27 := (c17.keep K20 nin0)
  have ok28 : own_ok [(100 : Int32), (105 : Int32), (115 : Int32), (116 : Int32), (97 : Int32), (110 : Int32), (99 : Int32), (101 : Int32)] := ⟨by simp only [List.mem_cons, List.not_mem_nil, or_false, forall_eq_or_imp, forall_eq, false_imp_iff, implies_true]; exact ⟨(by unfold own_b; decide), (by unfold own_b; decide), (by unfold own_b; decide), (by unfold own_b; decide), (by unfold own_b; decide), (by unfold own_b; decide), (by unfold own_b; decide), (by unfold own_b; decide)⟩, Nat.le_of_ble_eq_true rfl⟩
  have ok29 : own_ok l1 := hu7
  refine o_virtual W23 (y := (⟨"java/lang/String", "equals", "(Ljava/lang/Object;)Z"⟩ : MethodName)) (z := (⟨"java/lang/String", "equals", "(Ljava/lang/Object;)Z"⟩ : MethodName)) (kc := 0) (ks := 0) (Q := fun v hh L => ((v = some (.int 1) ∧ [(100 : Int32), (105 : Int32), (115 : Int32), (116 : Int32), (97 : Int32), (110 : Int32), (99 : Int32), (101 : Int32)] = l1) ∨ (v = some (.int 0) ∧ ¬ [(100 : Int32), (105 : Int32), (115 : Int32), (116 : Int32), (97 : Int32), (110 : Int32), (99 : Int32), (101 : Int32)] = l1)) ∧ L = [] ∧ hh = h20) (w56 hw) (w57 hw) (o_nf W23 rfl (w59 hw)) (w59 hw) (w58 hw) (by decide) (XgO12.ext W23.ox) (argsL := [(.ref a1)]) (StrChars.Road.eqW (W := 0) W23.2.2.2.1 (own_hE hw) (kI := 4) (w6 hw) (XgO12.ext W23.ox) (FgO12_value.ext W23.ox) (FgO12_coder.ext W23.ox) (VgO13.ext W23.ox) (own_codE ok28 rfl rfl) (own_up ok28) ok28.2 c24 c25 c26 c27 (own_cod ok29) (own_up ok29) ok29.2 (SgCS.ext W23.ox) NgCS (by decide) (by decide)) (by rw [hml]; rfl) (lenOf pd2 rfl) (S := []) rfl (by exact Nat.le_of_eq rfl) (pc' := 33) (hb hy d7_30) rfl (cells' := 1) (slots' := 3) rfl rfl (by decide) (by decide) (wy := []) (fun _ _ _ q => own_same q.2) all0 (fun _ _ => trivial) ?_
  intro v30 T30 h30 lo30 W30 K30 q30
  obtain rfl := own_eqv q30.1
  show Gl _ _ _ _ _ _ _ _ [(.int (own_eq [(100 : Int32), (105 : Int32), (115 : Int32), (116 : Int32), (97 : Int32), (110 : Int32), (99 : Int32), (101 : Int32)] l1))]
  refine o_ifY W30 (pc' := 39) (hb hy d7_33) (XT.i0_eq_t hc31) (by decide) rfl ?_
  refine o_iinc W30 (v := 3) (L' := #[.val (.ref a1), .val (.ref gO4), .val (.ref r1_1), .val (.int 3), .val (.int 3), .val (.ref gO6)]) (pc' := 42) (hb hy d7_39) rfl (by decide) rfl rfl ?_
  refine o_goto W30 (pc' := 12) (hb hy d7_42) (by decide) rfl ?_
  refine o_iload W30 (pc' := 14) (hb hy d7_12) rfl rfl ?_
  refine o_iloadN W30 (pc' := 15) (hb hy d7_14) rfl rfl ?_
  refine o_icmpY W30 (pc' := 45) (hb hy d7_15) (XT.ii_ge_t (by decide)) (by decide) rfl ?_
  refine o_aloadN W30 (pc' := 46) (hb hy d7_45) rfl rfl rfl ?_
  exact o_retA W30 hlk (v := (.ref gO4)) hret rfl rfl (hb hy d7_46) (by decide) (by decide) rfl
theorem rm4 (l : Launch) (Z : State) (a0 : Array Value) (hw : ∀ d ∈ tables_1, d.before a0 Z = true) (gCS : Int32) (gO1 gO2 gO4 gO6 gO8 gO9 gO10 gO11 gO12 gO13 : Addr) (k_gO2 k_gO9 k_gO11 k_gO13 : ClassId) (a1 a2 : Addr) (k_a2 : ClassId) (l1 : List Int32) (h0 : Heap) (O0 : Old Z Z.heap.size h0) (SgO2__VALUES : Sta Z Z.heap "com/example/sessn/sessn/session/Weights" "$VALUES" "[Lcom/example/sessn/sessn/session/Weights;" (.ref gO2)) (VgO2 : Arv Z Z.heap gO2 k_gO2 (.object "com/example/sessn/sessn/session/Weights") (3 : Int32) [(.ref gO1), (.ref gO4), (.ref gO6)] .null) (XgO2 : Exa Z Z.heap gO2 "[Lcom/example/sessn/sessn/session/Weights;") (FitgO2 : ∀ cl, Z.heap[gO2]? = some cl → FitC Z cl) (FgO1_label : Fld Z Z.heap gO1 "com/example/sessn/sessn/session/Weights" "label" "Ljava/lang/String;" (.ref gO8)) (SgCS : Sta Z Z.heap "java/lang/String" "COMPACT_STRINGS" "Z" (.int gCS)) (NgCS : ¬ (gCS = (0 : Int32))) (XgO8 : Exa Z Z.heap gO8 "java/lang/String") (FgO8_value : Fld Z Z.heap gO8 "java/lang/String" "value" "[B" (.ref gO9)) (FgO8_coder : Fld Z Z.heap gO8 "java/lang/String" "coder" "B" (.int 0)) (VgO9 : Arv Z Z.heap gO9 k_gO9 .byte (7 : Int32) [(.int 117), (.int 110), (.int 105), (.int 102), (.int 111), (.int 114), (.int 109)] (.int 0)) (E_a1 : Exa Z h0 a1 "java/lang/String") (F_a1_value : Fld Z h0 a1 "java/lang/String" "value" "[B" (.ref a2)) (F_a1_coder : Fld Z h0 a1 "java/lang/String" "coder" "B" (.int 0)) (V_a2 : Arv Z h0 a2 k_a2 .byte (Int32.ofNat (l1).length) ((l1).map fun c => Value.int (StrChars.lo8 c)) (.int 0)) (hu7 : own_ok l1) (hc11 : (own_eq [(117 : Int32), (110 : Int32), (105 : Int32), (102 : Int32), (111 : Int32), (114 : Int32), (109 : Int32)] l1) = (0 : Int32)) (FgO4_label : Fld Z Z.heap gO4 "com/example/sessn/sessn/session/Weights" "label" "Ljava/lang/String;" (.ref gO10)) (XgO10 : Exa Z Z.heap gO10 "java/lang/String") (FgO10_value : Fld Z Z.heap gO10 "java/lang/String" "value" "[B" (.ref gO11)) (FgO10_coder : Fld Z Z.heap gO10 "java/lang/String" "coder" "B" (.int 0)) (VgO11 : Arv Z Z.heap gO11 k_gO11 .byte (12 : Int32) [(.int 112), (.int 114), (.int 101), (.int 118), (.int 45), (.int 99), (.int 117), (.int 114), (.int 114), (.int 101), (.int 110), (.int 116)] (.int 0)) (hc21 : (own_eq [(112 : Int32), (114 : Int32), (101 : Int32), (118 : Int32), (45 : Int32), (99 : Int32), (117 : Int32), (114 : Int32), (114 : Int32), (101 : Int32), (110 : Int32), (116 : Int32)] l1) = (0 : Int32)) (FgO6_label : Fld Z Z.heap gO6 "com/example/sessn/sessn/session/Weights" "label" "Ljava/lang/String;" (.ref gO12)) (XgO12 : Exa Z Z.heap gO12 "java/lang/String") (FgO12_value : Fld Z Z.heap gO12 "java/lang/String" "value" "[B" (.ref gO13)) (FgO12_coder : Fld Z Z.heap gO12 "java/lang/String" "coder" "B" (.int 0)) (VgO13 : Arv Z Z.heap gO13 k_gO13 .byte (8 : Int32) [(.int 100), (.int 105), (.int 115), (.int 116), (.int 97), (.int 110), (.int 99), (.int 101)] (.int 0)) (hc31 : ¬ ((own_eq [(100 : Int32), (105 : Int32), (115 : Int32), (116 : Int32), (97 : Int32), (110 : Int32), (99 : Int32), (101 : Int32)] l1) = (0 : Int32))) :
    CtrN l Z (⟨"com/example/sessn/sessn/session/Weights", "labelled", "(Ljava/lang/String;)Lcom/example/sessn/sessn/session/Weights;"⟩ : MethodName) prog_28_method_5_code 6 (some (.object "com/example/sessn/sessn/session/Weights")) [] (⟨2, 1, 3, 28⟩ : Room) #[(.ref a1)] h0 [] (fun v h => v = some (.ref gO6)) := by
  refine CtrN.intro (L0 := #[.val (.ref a1), .unset, .unset, .unset, .unset, .unset]) (plainFor_of_name pn0) O0 (own_entry rfl) ?_
  intro p e s m below meth c T0 hy hml hret hlk hnm W0
  refine o_aconstNull W0 (pc' := 1) (hb hy d7_0) rfl ?_
  refine o_astoreN W0 (L' := #[.val (.ref a1), .val .null, .unset, .unset, .unset, .unset]) (pc' := 2) (hb hy d7_1) rfl rfl rfl ?_
  refine o_static W0 (y := (⟨"com/example/sessn/sessn/session/Weights", "values", "()[Lcom/example/sessn/sessn/session/Weights;"⟩ : MethodName)) (w37 hw) (w38 hw) (w2 hw) (w39 hw) (by decide) (argsL := []) (CtrN.back (Wd := 0) W0 (rm1 l Z a0 hw gO1 gO2 gO4 gO6 k_gO2 h0 W0.old SgO2__VALUES VgO2 XgO2 FitgO2) (w39 hw) (w2 hw) (by decide) (by decide)) (by rw [hml]; rfl) (lenOf pd1 rfl) (S := []) rfl (by exact Nat.le_of_eq rfl) (pc' := 5) (hb hy d7_2) rfl (cells' := 1) (slots' := 3) rfl rfl (by decide) (by decide) (wy := []) (fun _ _ _ q => ⟨q.1, q.2.1⟩) all0 (fun _ _ => trivial) ?_
  intro v1 T1 h1 lo1 W1 K1 q1
  obtain ⟨r1_1, r2_1, P1_0, P1_1, P1_2, rfl⟩ := q1.2.2
  show Gl _ _ _ _ _ _ _ _ [(.ref r1_1)]
  refine o_astoreN W1 (L' := #[.val (.ref a1), .val .null, .val (.ref r1_1), .unset, .unset, .unset]) (pc' := 6) (hb hy d7_5) rfl rfl rfl ?_
  refine o_aloadN W1 (pc' := 7) (hb hy d7_6) rfl rfl rfl ?_
  refine o_len W1 P1_1 (pc' := 8) (hb hy d7_7) rfl ?_
  refine o_istoreN W1 (L' := #[.val (.ref a1), .val .null, .val (.ref r1_1), .val (.int 3), .unset, .unset]) (pc' := 9) (hb hy d7_8) rfl rfl ?_
  refine o_iconst W1 (v := 0) (pc' := 10) (hb hy d7_9) rfl rfl ?_
  refine o_istore W1 (L' := #[.val (.ref a1), .val .null, .val (.ref r1_1), .val (.int 3), .val (.int 0), .unset]) (pc' := 12) (hb hy d7_10) rfl rfl ?_
  refine o_iload W1 (pc' := 14) (hb hy d7_12) rfl rfl ?_
  refine o_iloadN W1 (pc' := 15) (hb hy d7_14) rfl rfl ?_
  refine o_icmpN W1 (pc' := 18) (hb hy d7_15) (XT.ii_ge_f (by decide)) rfl ?_
  refine o_aloadN W1 (pc' := 19) (hb hy d7_18) rfl rfl rfl ?_
  refine o_iload W1 (pc' := 21) (hb hy d7_19) rfl rfl ?_
  refine o_aaload W1 P1_1 rfl (v := (.ref gO1)) (i := 0) (by decide) (by decide) (by decide) rfl (pc' := 22) (hb hy d7_21) rfl ?_
  refine o_astore W1 (L' := #[.val (.ref a1), .val .null, .val (.ref r1_1), .val (.int 3), .val (.int 0), .val (.ref gO1)]) (pc' := 24) (hb hy d7_22) rfl rfl rfl ?_
  refine o_aload W1 (pc' := 26) (hb hy d7_24) rfl rfl rfl ?_
  refine o_getF W1 (w54 hw) Via.refl (FgO1_label.ext W1.ox) (pc' := 29) (hb hy d7_26) rfl ?_
  intro T2 W2
  refine o_aloadN W2 (pc' := 30) (hb hy d7_29) rfl rfl rfl ?_
  have c3 := (E_a1.keep K1)
  have c4 := (F_a1_value.keep K1 nin0)
  have c5 := (F_a1_coder.keep K1 nin0)
  have c6 := (V_a2.keep K1 nin0)
  have ok8 : own_ok [(117 : Int32), (110 : Int32), (105 : Int32), (102 : Int32), (111 : Int32), (114 : Int32), (109 : Int32)] := ⟨by simp only [List.mem_cons, List.not_mem_nil, or_false, forall_eq_or_imp, forall_eq, false_imp_iff, implies_true]; exact ⟨(by unfold own_b; decide), (by unfold own_b; decide), (by unfold own_b; decide), (by unfold own_b; decide), (by unfold own_b; decide), (by unfold own_b; decide), (by unfold own_b; decide)⟩, Nat.le_of_ble_eq_true rfl⟩
  have ok9 : own_ok l1 := hu7
  refine o_virtual W2 (y := (⟨"java/lang/String", "equals", "(Ljava/lang/Object;)Z"⟩ : MethodName)) (z := (⟨"java/lang/String", "equals", "(Ljava/lang/Object;)Z"⟩ : MethodName)) (kc := 0) (ks := 0) (Q := fun v hh L => ((v = some (.int 1) ∧ [(117 : Int32), (110 : Int32), (105 : Int32), (102 : Int32), (111 : Int32), (114 : Int32), (109 : Int32)] = l1) ∨ (v = some (.int 0) ∧ ¬ [(117 : Int32), (110 : Int32), (105 : Int32), (102 : Int32), (111 : Int32), (114 : Int32), (109 : Int32)] = l1)) ∧ L = [] ∧ hh = h1) (w56 hw) (w57 hw) (o_nf W2 rfl (w59 hw)) (w59 hw) (w58 hw) (by decide) (XgO8.ext W2.ox) (argsL := [(.ref a1)]) (StrChars.Road.eqW (W := 0) W2.2.2.2.1 (own_hE hw) (kI := 4) (w6 hw) (XgO8.ext W2.ox) (FgO8_value.ext W2.ox) (FgO8_coder.ext W2.ox) (VgO9.ext W2.ox) (own_codE ok8 rfl rfl) (own_up ok8) ok8.2 c3 c4 c5 c6 (own_cod ok9) (own_up ok9) ok9.2 (SgCS.ext W2.ox) NgCS (by decide) (by decide)) (by rw [hml]; rfl) (lenOf pd2 rfl) (S := []) rfl (by exact Nat.le_of_eq rfl) (pc' := 33) (hb hy d7_30) rfl (cells' := 1) (slots' := 3) rfl rfl (by decide) (by decide) (wy := []) (fun _ _ _ q => own_same q.2) all0 (fun _ _ => trivial) ?_
  intro v10 T10 h10 lo10 W10 K10 q10
  obtain rfl := own_eqv q10.1
  show Gl _ _ _ _ _ _ _ _ [(.int (own_eq [(117 : Int32), (110 : Int32), (105 : Int32), (102 : Int32), (111 : Int32), (114 : Int32), (109 : Int32)] l1))]
  refine o_ifY W10 (pc' := 39) (hb hy d7_33) (XT.i0_eq_t hc11) (by decide) rfl ?_
  refine o_iinc W10 (v := 1) (L' := #[.val (.ref a1), .val .null, .val (.ref r1_1), .val (.int 3), .val (.int 1), .val (.ref gO1)]) (pc' := 42) (hb hy d7_39) rfl (by decide) rfl rfl ?_
  refine o_goto W10 (pc' := 12) (hb hy d7_42) (by decide) rfl ?_
  refine o_iload W10 (pc' := 14) (hb hy d7_12) rfl rfl ?_
  refine o_iloadN W10 (pc' := 15) (hb hy d7_14) rfl rfl ?_
  refine o_icmpN W10 (pc' := 18) (hb hy d7_15) (XT.ii_ge_f (by decide)) rfl ?_
  refine o_aloadN W10 (pc' := 19) (hb hy d7_18) rfl rfl rfl ?_
  refine o_iload W10 (pc' := 21) (hb hy d7_19) rfl rfl ?_
  have c12 := (P1_1.keep K10 nin0)
  refine o_aaload W10 c12 rfl (v := (.ref gO4)) (i := 1) (by decide) (by decide) (by decide) rfl (pc' := 22) (hb hy d7_21) rfl ?_
  refine o_astore W10 (L' := #[.val (.ref a1), .val .null, .val (.ref r1_1), .val (.int 3), .val (.int 1), .val (.ref gO4)]) (pc' := 24) (hb hy d7_22) rfl rfl rfl ?_
  refine o_aload W10 (pc' := 26) (hb hy d7_24) rfl rfl rfl ?_
  refine o_getF W10 (w54 hw) Via.refl (FgO4_label.ext W10.ox) (pc' := 29) (hb hy d7_26) rfl ?_
  intro T13 W13
  refine o_aloadN W13 (pc' := 30) (hb hy d7_29) rfl rfl rfl ?_
  have c14 := (c3.keep K10)
  have c15 := (c4.keep K10 nin0)
  have c16 := (c5.keep K10 nin0)
  have c17 := (c6.keep K10 nin0)
  have ok18 : own_ok [(112 : Int32), (114 : Int32), (101 : Int32), (118 : Int32), (45 : Int32), (99 : Int32), (117 : Int32), (114 : Int32), (114 : Int32), (101 : Int32), (110 : Int32), (116 : Int32)] := ⟨by simp only [List.mem_cons, List.not_mem_nil, or_false, forall_eq_or_imp, forall_eq, false_imp_iff, implies_true]; exact ⟨(by unfold own_b; decide), (by unfold own_b; decide), (by unfold own_b; decide), (by unfold own_b; decide), (by unfold own_b; decide), (by unfold own_b; decide), (by unfold own_b; decide), (by unfold own_b; decide), (by unfold own_b; decide), (by unfold own_b; decide), (by unfold own_b; decide), (by unfold own_b; decide)⟩, Nat.le_of_ble_eq_true rfl⟩
  have ok19 : own_ok l1 := hu7
  refine o_virtual W13 (y := (⟨"java/lang/String", "equals", "(Ljava/lang/Object;)Z"⟩ : MethodName)) (z := (⟨"java/lang/String", "equals", "(Ljava/lang/Object;)Z"⟩ : MethodName)) (kc := 0) (ks := 0) (Q := fun v hh L => ((v = some (.int 1) ∧ [(112 : Int32), (114 : Int32), (101 : Int32), (118 : Int32), (45 : Int32), (99 : Int32), (117 : Int32), (114 : Int32), (114 : Int32), (101 : Int32), (110 : Int32), (116 : Int32)] = l1) ∨ (v = some (.int 0) ∧ ¬ [(112 : Int32), (114 : Int32), (101 : Int32), (118 : Int32), (45 : Int32), (99 : Int32), (117 : Int32), (114 : Int32), (114 : Int32), (101 : Int32), (110 : Int32), (116 : Int32)] = l1)) ∧ L = [] ∧ hh = h10) (w56 hw) (w57 hw) (o_nf W13 rfl (w59 hw)) (w59 hw) (w58 hw) (by decide) (XgO10.ext W13.ox) (argsL := [(.ref a1)]) (StrChars.Road.eqW (W := 0) W13.2.2.2.1 (own_hE hw) (kI := 4) (w6 hw) (XgO10.ext W13.ox) (FgO10_value.ext W13.ox) (FgO10_coder.ext W13.ox) (VgO11.ext W13.ox) (own_codE ok18 rfl rfl) (own_up ok18) ok18.2 c14 c15 c16 c17 (own_cod ok19) (own_up ok19) ok19.2 (SgCS.ext W13.ox) NgCS (by decide) (by decide)) (by rw [hml]; rfl) (lenOf pd2 rfl) (S := []) rfl (by exact Nat.le_of_eq rfl) (pc' := 33) (hb hy d7_30) rfl (cells' := 1) (slots' := 3) rfl rfl (by decide) (by decide) (wy := []) (fun _ _ _ q => own_same q.2) all0 (fun _ _ => trivial) ?_
  intro v20 T20 h20 lo20 W20 K20 q20
  obtain rfl := own_eqv q20.1
  show Gl _ _ _ _ _ _ _ _ [(.int (own_eq [(112 : Int32), (114 : Int32), (101 : Int32), (118 : Int32), (45 : Int32), (99 : Int32), (117 : Int32), (114 : Int32), (114 : Int32), (101 : Int32), (110 : Int32), (116 : Int32)] l1))]
  refine o_ifY W20 (pc' := 39) (hb hy d7_33) (XT.i0_eq_t hc21) (by decide) rfl ?_
  refine o_iinc W20 (v := 2) (L' := #[.val (.ref a1), .val .null, .val (.ref r1_1), .val (.int 3), .val (.int 2), .val (.ref gO4)]) (pc' := 42) (hb hy d7_39) rfl (by decide) rfl rfl ?_
  refine o_goto W20 (pc' := 12) (hb hy d7_42) (by decide) rfl ?_
  refine o_iload W20 (pc' := 14) (hb hy d7_12) rfl rfl ?_
  refine o_iloadN W20 (pc' := 15) (hb hy d7_14) rfl rfl ?_
  refine o_icmpN W20 (pc' := 18) (hb hy d7_15) (XT.ii_ge_f (by decide)) rfl ?_
  refine o_aloadN W20 (pc' := 19) (hb hy d7_18) rfl rfl rfl ?_
  refine o_iload W20 (pc' := 21) (hb hy d7_19) rfl rfl ?_
  have c22 := (c12.keep K20 nin0)
  refine o_aaload W20 c22 rfl (v := (.ref gO6)) (i := 2) (by decide) (by decide) (by decide) rfl (pc' := 22) (hb hy d7_21) rfl ?_
  refine o_astore W20 (L' := #[.val (.ref a1), .val .null, .val (.ref r1_1), .val (.int 3), .val (.int 2), .val (.ref gO6)]) (pc' := 24) (hb hy d7_22) rfl rfl rfl ?_
  refine o_aload W20 (pc' := 26) (hb hy d7_24) rfl rfl rfl ?_
  refine o_getF W20 (w54 hw) Via.refl (FgO6_label.ext W20.ox) (pc' := 29) (hb hy d7_26) rfl ?_
  intro T23 W23
  refine o_aloadN W23 (pc' := 30) (hb hy d7_29) rfl rfl rfl ?_
  have c24 := (c14.keep K20)
  have c25 := (c15.keep K20 nin0)
  have c26 := (c16.keep K20 nin0)
  have c27 := (c17.keep K20 nin0)
  have ok28 : own_ok [(100 : Int32), (105 : Int32), (115 : Int32), (116 : Int32), (97 : Int32), (110 : Int32), (99 : Int32), (101 : Int32)] := ⟨by simp only [List.mem_cons, List.not_mem_nil, or_false, forall_eq_or_imp, forall_eq, false_imp_iff, implies_true]; exact ⟨(by unfold own_b; decide), (by unfold own_b; decide), (by unfold own_b; decide), (by unfold own_b; decide), (by unfold own_b; decide), (by unfold own_b; decide), (by unfold own_b; decide), (by unfold own_b; decide)⟩, Nat.le_of_ble_eq_true rfl⟩
  have ok29 : own_ok l1 := hu7
  refine o_virtual W23 (y := (⟨"java/lang/String", "equals", "(Ljava/lang/Object;)Z"⟩ : MethodName)) (z := (⟨"java/lang/String", "equals", "(Ljava/lang/Object;)Z"⟩ : MethodName)) (kc := 0) (ks := 0) (Q := fun v hh L => ((v = some (.int 1) ∧ [(100 : Int32), (105 : Int32), (115 : Int32), (116 : Int32), (97 : Int32), (110 : Int32), (99 : Int32), (101 : Int32)] = l1) ∨ (v = some (.int 0) ∧ ¬ [(100 : Int32), (105 : Int32), (115 : Int32), (116 : Int32), (97 : Int32), (110 : Int32), (99 : Int32), (101 : Int32)] = l1)) ∧ L = [] ∧ hh = h20) (w56 hw) (w57 hw) (o_nf W23 rfl (w59 hw)) (w59 hw) (w58 hw) (by decide) (XgO12.ext W23.ox) (argsL := [(.ref a1)]) (StrChars.Road.eqW (W := 0) W23.2.2.2.1 (own_hE hw) (kI := 4) (w6 hw) (XgO12.ext W23.ox) (FgO12_value.ext W23.ox) (FgO12_coder.ext W23.ox) (VgO13.ext W23.ox) (own_codE ok28 rfl rfl) (own_up ok28) ok28.2 c24 c25 c26 c27 (own_cod ok29) (own_up ok29) ok29.2 (SgCS.ext W23.ox) NgCS (by decide) (by decide)) (by rw [hml]; rfl) (lenOf pd2 rfl) (S := []) rfl (by exact Nat.le_of_eq rfl) (pc' := 33) (hb hy d7_30) rfl (cells' := 1) (slots' := 3) rfl rfl (by decide) (by decide) (wy := []) (fun _ _ _ q => own_same q.2) all0 (fun _ _ => trivial) ?_
  intro v30 T30 h30 lo30 W30 K30 q30
  obtain rfl := own_eqv q30.1
  show Gl _ _ _ _ _ _ _ _ [(.int (own_eq [(100 : Int32), (105 : Int32), (115 : Int32), (116 : Int32), (97 : Int32), (110 : Int32), (99 : Int32), (101 : Int32)] l1))]
  refine o_ifN W30 (pc' := 36) (hb hy d7_33) (XT.i0_eq_f hc31) rfl ?_
  refine o_aload W30 (pc' := 38) (hb hy d7_36) rfl rfl rfl ?_
  refine o_astoreN W30 (L' := #[.val (.ref a1), .val (.ref gO6), .val (.ref r1_1), .val (.int 3), .val (.int 2), .val (.ref gO6)]) (pc' := 39) (hb hy d7_38) rfl rfl rfl ?_
  refine o_iinc W30 (v := 3) (L' := #[.val (.ref a1), .val (.ref gO6), .val (.ref r1_1), .val (.int 3), .val (.int 3), .val (.ref gO6)]) (pc' := 42) (hb hy d7_39) rfl (by decide) rfl rfl ?_
  refine o_goto W30 (pc' := 12) (hb hy d7_42) (by decide) rfl ?_
  refine o_iload W30 (pc' := 14) (hb hy d7_12) rfl rfl ?_
  refine o_iloadN W30 (pc' := 15) (hb hy d7_14) rfl rfl ?_
  refine o_icmpY W30 (pc' := 45) (hb hy d7_15) (XT.ii_ge_t (by decide)) (by decide) rfl ?_
  refine o_aloadN W30 (pc' := 46) (hb hy d7_45) rfl rfl rfl ?_
  exact o_retA W30 hlk (v := (.ref gO6)) hret rfl rfl (hb hy d7_46) (by decide) (by decide) rfl
theorem rm5 (l : Launch) (Z : State) (a0 : Array Value) (hw : ∀ d ∈ tables_1, d.before a0 Z = true) (gO8 : Addr) (h0 : Heap) (O0 : Old Z Z.heap.size h0) :
    CtrN l Z (⟨"java/lang/String", "equals", "(Ljava/lang/Object;)Z"⟩ : MethodName) jdk_42_method_66_code 3 (some .boolean) [] (⟨0, 0, 0, 0⟩ : Room) #[(.ref gO8), .null] h0 [] (fun v h => v = some (.int 0)) := by
  refine CtrN.intro (L0 := #[.val (.ref gO8), .val .null, .unset]) (plainFor_of_name pn1) O0 (own_entry rfl) ?_
  intro p e s m below meth c T0 hy hml hret hlk hnm W0
  refine o_aloadN W0 (pc' := 1) (hb hy d9_0) rfl rfl rfl ?_
  refine o_aloadN W0 (pc' := 2) (hb hy d9_1) rfl rfl rfl ?_
  refine o_acmpY W0 (pc' := 7) (hb hy d9_2) rfl rfl (XT.aa_ne_t nofun) (by decide) rfl ?_
  refine o_aloadN W0 (pc' := 8) (hb hy d9_7) rfl rfl rfl ?_
  refine o_instNull W0 (pc' := 11) (hb hy d9_8) rfl ?_
  refine o_ifY W0 (pc' := 54) (hb hy d9_11) (XT.i0_eq_t (by decide)) (by decide) rfl ?_
  refine o_iconst W0 (v := 0) (pc' := 55) (hb hy d9_54) rfl rfl ?_
  exact o_retN W0 hlk (t := .boolean) hret (by simp) (z' := (0 : Int32)) (by decide) (hb hy d9_55) (by decide) (by decide) rfl
theorem rm6 (l : Launch) (Z : State) (a0 : Array Value) (hw : ∀ d ∈ tables_1, d.before a0 Z = true) (gO10 : Addr) (h0 : Heap) (O0 : Old Z Z.heap.size h0) :
    CtrN l Z (⟨"java/lang/String", "equals", "(Ljava/lang/Object;)Z"⟩ : MethodName) jdk_42_method_66_code 3 (some .boolean) [] (⟨0, 0, 0, 0⟩ : Room) #[(.ref gO10), .null] h0 [] (fun v h => v = some (.int 0)) := by
  refine CtrN.intro (L0 := #[.val (.ref gO10), .val .null, .unset]) (plainFor_of_name pn1) O0 (own_entry rfl) ?_
  intro p e s m below meth c T0 hy hml hret hlk hnm W0
  refine o_aloadN W0 (pc' := 1) (hb hy d9_0) rfl rfl rfl ?_
  refine o_aloadN W0 (pc' := 2) (hb hy d9_1) rfl rfl rfl ?_
  refine o_acmpY W0 (pc' := 7) (hb hy d9_2) rfl rfl (XT.aa_ne_t nofun) (by decide) rfl ?_
  refine o_aloadN W0 (pc' := 8) (hb hy d9_7) rfl rfl rfl ?_
  refine o_instNull W0 (pc' := 11) (hb hy d9_8) rfl ?_
  refine o_ifY W0 (pc' := 54) (hb hy d9_11) (XT.i0_eq_t (by decide)) (by decide) rfl ?_
  refine o_iconst W0 (v := 0) (pc' := 55) (hb hy d9_54) rfl rfl ?_
  exact o_retN W0 hlk (t := .boolean) hret (by simp) (z' := (0 : Int32)) (by decide) (hb hy d9_55) (by decide) (by decide) rfl
theorem rm7 (l : Launch) (Z : State) (a0 : Array Value) (hw : ∀ d ∈ tables_1, d.before a0 Z = true) (gO12 : Addr) (h0 : Heap) (O0 : Old Z Z.heap.size h0) :
    CtrN l Z (⟨"java/lang/String", "equals", "(Ljava/lang/Object;)Z"⟩ : MethodName) jdk_42_method_66_code 3 (some .boolean) [] (⟨0, 0, 0, 0⟩ : Room) #[(.ref gO12), .null] h0 [] (fun v h => v = some (.int 0)) := by
  refine CtrN.intro (L0 := #[.val (.ref gO12), .val .null, .unset]) (plainFor_of_name pn1) O0 (own_entry rfl) ?_
  intro p e s m below meth c T0 hy hml hret hlk hnm W0
  refine o_aloadN W0 (pc' := 1) (hb hy d9_0) rfl rfl rfl ?_
  refine o_aloadN W0 (pc' := 2) (hb hy d9_1) rfl rfl rfl ?_
  refine o_acmpY W0 (pc' := 7) (hb hy d9_2) rfl rfl (XT.aa_ne_t nofun) (by decide) rfl ?_
  refine o_aloadN W0 (pc' := 8) (hb hy d9_7) rfl rfl rfl ?_
  refine o_instNull W0 (pc' := 11) (hb hy d9_8) rfl ?_
  refine o_ifY W0 (pc' := 54) (hb hy d9_11) (XT.i0_eq_t (by decide)) (by decide) rfl ?_
  refine o_iconst W0 (v := 0) (pc' := 55) (hb hy d9_54) rfl rfl ?_
  exact o_retN W0 hlk (t := .boolean) hret (by simp) (z' := (0 : Int32)) (by decide) (hb hy d9_55) (by decide) (by decide) rfl
theorem rm8 (l : Launch) (Z : State) (a0 : Array Value) (hw : ∀ d ∈ tables_1, d.before a0 Z = true) (gO1 gO2 gO4 gO6 gO8 gO10 gO12 : Addr) (k_gO2 : ClassId) (h0 : Heap) (O0 : Old Z Z.heap.size h0) (SgO2__VALUES : Sta Z Z.heap "com/example/sessn/sessn/session/Weights" "$VALUES" "[Lcom/example/sessn/sessn/session/Weights;" (.ref gO2)) (VgO2 : Arv Z Z.heap gO2 k_gO2 (.object "com/example/sessn/sessn/session/Weights") (3 : Int32) [(.ref gO1), (.ref gO4), (.ref gO6)] .null) (XgO2 : Exa Z Z.heap gO2 "[Lcom/example/sessn/sessn/session/Weights;") (FitgO2 : ∀ cl, Z.heap[gO2]? = some cl → FitC Z cl) (FgO1_label : Fld Z Z.heap gO1 "com/example/sessn/sessn/session/Weights" "label" "Ljava/lang/String;" (.ref gO8)) (XgO8 : Exa Z Z.heap gO8 "java/lang/String") (FgO4_label : Fld Z Z.heap gO4 "com/example/sessn/sessn/session/Weights" "label" "Ljava/lang/String;" (.ref gO10)) (XgO10 : Exa Z Z.heap gO10 "java/lang/String") (FgO6_label : Fld Z Z.heap gO6 "com/example/sessn/sessn/session/Weights" "label" "Ljava/lang/String;" (.ref gO12)) (XgO12 : Exa Z Z.heap gO12 "java/lang/String") :
    CtrN l Z (⟨"com/example/sessn/sessn/session/Weights", "labelled", "(Ljava/lang/String;)Lcom/example/sessn/sessn/session/Weights;"⟩ : MethodName) prog_28_method_5_code 6 (some (.object "com/example/sessn/sessn/session/Weights")) [] (⟨2, 1, 3, 25⟩ : Room) #[.null] h0 [] (fun v h => v = some .null) := by
  refine CtrN.intro (L0 := #[.val .null, .unset, .unset, .unset, .unset, .unset]) (plainFor_of_name pn0) O0 (own_entry rfl) ?_
  intro p e s m below meth c T0 hy hml hret hlk hnm W0
  refine o_aconstNull W0 (pc' := 1) (hb hy d7_0) rfl ?_
  refine o_astoreN W0 (L' := #[.val .null, .val .null, .unset, .unset, .unset, .unset]) (pc' := 2) (hb hy d7_1) rfl rfl rfl ?_
  refine o_static W0 (y := (⟨"com/example/sessn/sessn/session/Weights", "values", "()[Lcom/example/sessn/sessn/session/Weights;"⟩ : MethodName)) (w37 hw) (w38 hw) (w2 hw) (w39 hw) (by decide) (argsL := []) (CtrN.back (Wd := 0) W0 (rm1 l Z a0 hw gO1 gO2 gO4 gO6 k_gO2 h0 W0.old SgO2__VALUES VgO2 XgO2 FitgO2) (w39 hw) (w2 hw) (by decide) (by decide)) (by rw [hml]; rfl) (lenOf pd1 rfl) (S := []) rfl (by exact Nat.le_of_eq rfl) (pc' := 5) (hb hy d7_2) rfl (cells' := 1) (slots' := 3) rfl rfl (by decide) (by decide) (wy := []) (fun _ _ _ q => ⟨q.1, q.2.1⟩) all0 (fun _ _ => trivial) ?_
  intro v1 T1 h1 lo1 W1 K1 q1
  obtain ⟨r1_1, r2_1, P1_0, P1_1, P1_2, rfl⟩ := q1.2.2
  show Gl _ _ _ _ _ _ _ _ [(.ref r1_1)]
  refine o_astoreN W1 (L' := #[.val .null, .val .null, .val (.ref r1_1), .unset, .unset, .unset]) (pc' := 6) (hb hy d7_5) rfl rfl rfl ?_
  refine o_aloadN W1 (pc' := 7) (hb hy d7_6) rfl rfl rfl ?_
  refine o_len W1 P1_1 (pc' := 8) (hb hy d7_7) rfl ?_
  refine o_istoreN W1 (L' := #[.val .null, .val .null, .val (.ref r1_1), .val (.int 3), .unset, .unset]) (pc' := 9) (hb hy d7_8) rfl rfl ?_
  refine o_iconst W1 (v := 0) (pc' := 10) (hb hy d7_9) rfl rfl ?_
  refine o_istore W1 (L' := #[.val .null, .val .null, .val (.ref r1_1), .val (.int 3), .val (.int 0), .unset]) (pc' := 12) (hb hy d7_10) rfl rfl ?_
  refine o_iload W1 (pc' := 14) (hb hy d7_12) rfl rfl ?_
  refine o_iloadN W1 (pc' := 15) (hb hy d7_14) rfl rfl ?_
  refine o_icmpN W1 (pc' := 18) (hb hy d7_15) (XT.ii_ge_f (by decide)) rfl ?_
  refine o_aloadN W1 (pc' := 19) (hb hy d7_18) rfl rfl rfl ?_
  refine o_iload W1 (pc' := 21) (hb hy d7_19) rfl rfl ?_
  refine o_aaload W1 P1_1 rfl (v := (.ref gO1)) (i := 0) (by decide) (by decide) (by decide) rfl (pc' := 22) (hb hy d7_21) rfl ?_
  refine o_astore W1 (L' := #[.val .null, .val .null, .val (.ref r1_1), .val (.int 3), .val (.int 0), .val (.ref gO1)]) (pc' := 24) (hb hy d7_22) rfl rfl rfl ?_
  refine o_aload W1 (pc' := 26) (hb hy d7_24) rfl rfl rfl ?_
  refine o_getF W1 (w54 hw) Via.refl (FgO1_label.ext W1.ox) (pc' := 29) (hb hy d7_26) rfl ?_
  intro T2 W2
  refine o_aloadN W2 (pc' := 30) (hb hy d7_29) rfl rfl rfl ?_
  refine o_virtual W2 (y := (⟨"java/lang/String", "equals", "(Ljava/lang/Object;)Z"⟩ : MethodName)) (z := (⟨"java/lang/String", "equals", "(Ljava/lang/Object;)Z"⟩ : MethodName)) (w56 hw) (w57 hw) (o_nf W2 rfl (w59 hw)) (w59 hw) (w58 hw) (by decide) (XgO8.ext W2.ox) (argsL := [.null]) (CtrN.back (Wd := 0) W2 (rm5 l Z a0 hw gO8 h1 W2.old ) (w60 hw) (w7 hw) (by decide) (by decide)) (by rw [hml]; rfl) (lenOf pd2 rfl) (S := []) rfl (by exact Nat.le_of_eq rfl) (pc' := 33) (hb hy d7_30) rfl (cells' := 1) (slots' := 3) rfl rfl (by decide) (by decide) (wy := []) (fun _ _ _ q => ⟨q.1, q.2.1⟩) all0 (fun _ _ => trivial) ?_
  intro v3 T3 h3 lo3 W3 K3 q3
  obtain rfl := q3.2.2
  show Gl _ _ _ _ _ _ _ _ [(.int 0)]
  refine o_ifY W3 (pc' := 39) (hb hy d7_33) (XT.i0_eq_t (by decide)) (by decide) rfl ?_
  refine o_iinc W3 (v := 1) (L' := #[.val .null, .val .null, .val (.ref r1_1), .val (.int 3), .val (.int 1), .val (.ref gO1)]) (pc' := 42) (hb hy d7_39) rfl (by decide) rfl rfl ?_
  refine o_goto W3 (pc' := 12) (hb hy d7_42) (by decide) rfl ?_
  refine o_iload W3 (pc' := 14) (hb hy d7_12) rfl rfl ?_
  refine o_iloadN W3 (pc' := 15) (hb hy d7_14) rfl rfl ?_
  refine o_icmpN W3 (pc' := 18) (hb hy d7_15) (XT.ii_ge_f (by decide)) rfl ?_
  refine o_aloadN W3 (pc' := 19) (hb hy d7_18) rfl rfl rfl ?_
  refine o_iload W3 (pc' := 21) (hb hy d7_19) rfl rfl ?_
  have c4 := (P1_1.keep K3 nin0)
  refine o_aaload W3 c4 rfl (v := (.ref gO4)) (i := 1) (by decide) (by decide) (by decide) rfl (pc' := 22) (hb hy d7_21) rfl ?_
  refine o_astore W3 (L' := #[.val .null, .val .null, .val (.ref r1_1), .val (.int 3), .val (.int 1), .val (.ref gO4)]) (pc' := 24) (hb hy d7_22) rfl rfl rfl ?_
  refine o_aload W3 (pc' := 26) (hb hy d7_24) rfl rfl rfl ?_
  refine o_getF W3 (w54 hw) Via.refl (FgO4_label.ext W3.ox) (pc' := 29) (hb hy d7_26) rfl ?_
  intro T5 W5
  refine o_aloadN W5 (pc' := 30) (hb hy d7_29) rfl rfl rfl ?_
  refine o_virtual W5 (y := (⟨"java/lang/String", "equals", "(Ljava/lang/Object;)Z"⟩ : MethodName)) (z := (⟨"java/lang/String", "equals", "(Ljava/lang/Object;)Z"⟩ : MethodName)) (w56 hw) (w57 hw) (o_nf W5 rfl (w59 hw)) (w59 hw) (w58 hw) (by decide) (XgO10.ext W5.ox) (argsL := [.null]) (CtrN.back (Wd := 0) W5 (rm6 l Z a0 hw gO10 h3 W5.old ) (w60 hw) (w7 hw) (by decide) (by decide)) (by rw [hml]; rfl) (lenOf pd2 rfl) (S := []) rfl (by exact Nat.le_of_eq rfl) (pc' := 33) (hb hy d7_30) rfl (cells' := 1) (slots' := 3) rfl rfl (by decide) (by decide) (wy := []) (fun _ _ _ q => ⟨q.1, q.2.1⟩) all0 (fun _ _ => trivial) ?_
  intro v6 T6 h6 lo6 W6 K6 q6
  obtain rfl := q6.2.2
  show Gl _ _ _ _ _ _ _ _ [(.int 0)]
  refine o_ifY W6 (pc' := 39) (hb hy d7_33) (XT.i0_eq_t (by decide)) (by decide) rfl ?_
  refine o_iinc W6 (v := 2) (L' := #[.val .null, .val .null, .val (.ref r1_1), .val (.int 3), .val (.int 2), .val (.ref gO4)]) (pc' := 42) (hb hy d7_39) rfl (by decide) rfl rfl ?_
  refine o_goto W6 (pc' := 12) (hb hy d7_42) (by decide) rfl ?_
  refine o_iload W6 (pc' := 14) (hb hy d7_12) rfl rfl ?_
  refine o_iloadN W6 (pc' := 15) (hb hy d7_14) rfl rfl ?_
  refine o_icmpN W6 (pc' := 18) (hb hy d7_15) (XT.ii_ge_f (by decide)) rfl ?_
  refine o_aloadN W6 (pc' := 19) (hb hy d7_18) rfl rfl rfl ?_
  refine o_iload W6 (pc' := 21) (hb hy d7_19) rfl rfl ?_
  have c7 := (c4.keep K6 nin0)
  refine o_aaload W6 c7 rfl (v := (.ref gO6)) (i := 2) (by decide) (by decide) (by decide) rfl (pc' := 22) (hb hy d7_21) rfl ?_
  refine o_astore W6 (L' := #[.val .null, .val .null, .val (.ref r1_1), .val (.int 3), .val (.int 2), .val (.ref gO6)]) (pc' := 24) (hb hy d7_22) rfl rfl rfl ?_
  refine o_aload W6 (pc' := 26) (hb hy d7_24) rfl rfl rfl ?_
  refine o_getF W6 (w54 hw) Via.refl (FgO6_label.ext W6.ox) (pc' := 29) (hb hy d7_26) rfl ?_
  intro T8 W8
  refine o_aloadN W8 (pc' := 30) (hb hy d7_29) rfl rfl rfl ?_
  refine o_virtual W8 (y := (⟨"java/lang/String", "equals", "(Ljava/lang/Object;)Z"⟩ : MethodName)) (z := (⟨"java/lang/String", "equals", "(Ljava/lang/Object;)Z"⟩ : MethodName)) (w56 hw) (w57 hw) (o_nf W8 rfl (w59 hw)) (w59 hw) (w58 hw) (by decide) (XgO12.ext W8.ox) (argsL := [.null]) (CtrN.back (Wd := 0) W8 (rm7 l Z a0 hw gO12 h6 W8.old ) (w60 hw) (w7 hw) (by decide) (by decide)) (by rw [hml]; rfl) (lenOf pd2 rfl) (S := []) rfl (by exact Nat.le_of_eq rfl) (pc' := 33) (hb hy d7_30) rfl (cells' := 1) (slots' := 3) rfl rfl (by decide) (by decide) (wy := []) (fun _ _ _ q => ⟨q.1, q.2.1⟩) all0 (fun _ _ => trivial) ?_
  intro v9 T9 h9 lo9 W9 K9 q9
  obtain rfl := q9.2.2
  show Gl _ _ _ _ _ _ _ _ [(.int 0)]
  refine o_ifY W9 (pc' := 39) (hb hy d7_33) (XT.i0_eq_t (by decide)) (by decide) rfl ?_
  refine o_iinc W9 (v := 3) (L' := #[.val .null, .val .null, .val (.ref r1_1), .val (.int 3), .val (.int 3), .val (.ref gO6)]) (pc' := 42) (hb hy d7_39) rfl (by decide) rfl rfl ?_
  refine o_goto W9 (pc' := 12) (hb hy d7_42) (by decide) rfl ?_
  refine o_iload W9 (pc' := 14) (hb hy d7_12) rfl rfl ?_
  refine o_iloadN W9 (pc' := 15) (hb hy d7_14) rfl rfl ?_
  refine o_icmpY W9 (pc' := 45) (hb hy d7_15) (XT.ii_ge_t (by decide)) (by decide) rfl ?_
  refine o_aloadN W9 (pc' := 46) (hb hy d7_45) rfl rfl rfl ?_
  exact o_retA W9 hlk (v := .null) hret rfl rfl (hb hy d7_46) (by decide) (by decide) rfl
theorem rm9 (l : Launch) (Z : State) (a0 : Array Value) (hw : ∀ d ∈ tables_1, d.before a0 Z = true) (gCS : Int32) (gO1 gO2 gO4 gO6 gO8 gO9 gO10 gO11 gO12 gO13 : Addr) (k_gO2 k_gO9 k_gO11 k_gO13 : ClassId) (a1 a2 : Addr) (k_a2 : ClassId) (l1 : List Int32) (h0 : Heap) (O0 : Old Z Z.heap.size h0) (SgO2__VALUES : Sta Z Z.heap "com/example/sessn/sessn/session/Weights" "$VALUES" "[Lcom/example/sessn/sessn/session/Weights;" (.ref gO2)) (VgO2 : Arv Z Z.heap gO2 k_gO2 (.object "com/example/sessn/sessn/session/Weights") (3 : Int32) [(.ref gO1), (.ref gO4), (.ref gO6)] .null) (XgO2 : Exa Z Z.heap gO2 "[Lcom/example/sessn/sessn/session/Weights;") (FitgO2 : ∀ cl, Z.heap[gO2]? = some cl → FitC Z cl) (FgO1_label : Fld Z Z.heap gO1 "com/example/sessn/sessn/session/Weights" "label" "Ljava/lang/String;" (.ref gO8)) (SgCS : Sta Z Z.heap "java/lang/String" "COMPACT_STRINGS" "Z" (.int gCS)) (NgCS : ¬ (gCS = (0 : Int32))) (XgO8 : Exa Z Z.heap gO8 "java/lang/String") (FgO8_value : Fld Z Z.heap gO8 "java/lang/String" "value" "[B" (.ref gO9)) (FgO8_coder : Fld Z Z.heap gO8 "java/lang/String" "coder" "B" (.int 0)) (VgO9 : Arv Z Z.heap gO9 k_gO9 .byte (7 : Int32) [(.int 117), (.int 110), (.int 105), (.int 102), (.int 111), (.int 114), (.int 109)] (.int 0)) (E_a1 : Exa Z h0 a1 "java/lang/String") (F_a1_value : Fld Z h0 a1 "java/lang/String" "value" "[B" (.ref a2)) (F_a1_coder : Fld Z h0 a1 "java/lang/String" "coder" "B" (.int 0)) (V_a2 : Arv Z h0 a2 k_a2 .byte (Int32.ofNat (l1).length) ((l1).map fun c => Value.int (StrChars.lo8 c)) (.int 0)) (hu7 : own_ok l1) (hc11 : (own_eq [(117 : Int32), (110 : Int32), (105 : Int32), (102 : Int32), (111 : Int32), (114 : Int32), (109 : Int32)] l1) = (0 : Int32)) (FgO4_label : Fld Z Z.heap gO4 "com/example/sessn/sessn/session/Weights" "label" "Ljava/lang/String;" (.ref gO10)) (XgO10 : Exa Z Z.heap gO10 "java/lang/String") (FgO10_value : Fld Z Z.heap gO10 "java/lang/String" "value" "[B" (.ref gO11)) (FgO10_coder : Fld Z Z.heap gO10 "java/lang/String" "coder" "B" (.int 0)) (VgO11 : Arv Z Z.heap gO11 k_gO11 .byte (12 : Int32) [(.int 112), (.int 114), (.int 101), (.int 118), (.int 45), (.int 99), (.int 117), (.int 114), (.int 114), (.int 101), (.int 110), (.int 116)] (.int 0)) (hc21 : (own_eq [(112 : Int32), (114 : Int32), (101 : Int32), (118 : Int32), (45 : Int32), (99 : Int32), (117 : Int32), (114 : Int32), (114 : Int32), (101 : Int32), (110 : Int32), (116 : Int32)] l1) = (0 : Int32)) (FgO6_label : Fld Z Z.heap gO6 "com/example/sessn/sessn/session/Weights" "label" "Ljava/lang/String;" (.ref gO12)) (XgO12 : Exa Z Z.heap gO12 "java/lang/String") (FgO12_value : Fld Z Z.heap gO12 "java/lang/String" "value" "[B" (.ref gO13)) (FgO12_coder : Fld Z Z.heap gO12 "java/lang/String" "coder" "B" (.int 0)) (VgO13 : Arv Z Z.heap gO13 k_gO13 .byte (8 : Int32) [(.int 100), (.int 105), (.int 115), (.int 116), (.int 97), (.int 110), (.int 99), (.int 101)] (.int 0)) (hc31 : (own_eq [(100 : Int32), (105 : Int32), (115 : Int32), (116 : Int32), (97 : Int32), (110 : Int32), (99 : Int32), (101 : Int32)] l1) = (0 : Int32)) :
    CtrN l Z (⟨"com/example/sessn/sessn/session/Weights", "labelled", "(Ljava/lang/String;)Lcom/example/sessn/sessn/session/Weights;"⟩ : MethodName) prog_28_method_5_code 6 (some (.object "com/example/sessn/sessn/session/Weights")) [] (⟨2, 1, 3, 28⟩ : Room) #[(.ref a1)] h0 [] (fun v h => v = some .null) := by
  refine CtrN.intro (L0 := #[.val (.ref a1), .unset, .unset, .unset, .unset, .unset]) (plainFor_of_name pn0) O0 (own_entry rfl) ?_
  intro p e s m below meth c T0 hy hml hret hlk hnm W0
  refine o_aconstNull W0 (pc' := 1) (hb hy d7_0) rfl ?_
  refine o_astoreN W0 (L' := #[.val (.ref a1), .val .null, .unset, .unset, .unset, .unset]) (pc' := 2) (hb hy d7_1) rfl rfl rfl ?_
  refine o_static W0 (y := (⟨"com/example/sessn/sessn/session/Weights", "values", "()[Lcom/example/sessn/sessn/session/Weights;"⟩ : MethodName)) (w37 hw) (w38 hw) (w2 hw) (w39 hw) (by decide) (argsL := []) (CtrN.back (Wd := 0) W0 (rm1 l Z a0 hw gO1 gO2 gO4 gO6 k_gO2 h0 W0.old SgO2__VALUES VgO2 XgO2 FitgO2) (w39 hw) (w2 hw) (by decide) (by decide)) (by rw [hml]; rfl) (lenOf pd1 rfl) (S := []) rfl (by exact Nat.le_of_eq rfl) (pc' := 5) (hb hy d7_2) rfl (cells' := 1) (slots' := 3) rfl rfl (by decide) (by decide) (wy := []) (fun _ _ _ q => ⟨q.1, q.2.1⟩) all0 (fun _ _ => trivial) ?_
  intro v1 T1 h1 lo1 W1 K1 q1
  obtain ⟨r1_1, r2_1, P1_0, P1_1, P1_2, rfl⟩ := q1.2.2
  show Gl _ _ _ _ _ _ _ _ [(.ref r1_1)]
  refine o_astoreN W1 (L' := #[.val (.ref a1), .val .null, .val (.ref r1_1), .unset, .unset, .unset]) (pc' := 6) (hb hy d7_5) rfl rfl rfl ?_
  refine o_aloadN W1 (pc' := 7) (hb hy d7_6) rfl rfl rfl ?_
  refine o_len W1 P1_1 (pc' := 8) (hb hy d7_7) rfl ?_
  refine o_istoreN W1 (L' := #[.val (.ref a1), .val .null, .val (.ref r1_1), .val (.int 3), .unset, .unset]) (pc' := 9) (hb hy d7_8) rfl rfl ?_
  refine o_iconst W1 (v := 0) (pc' := 10) (hb hy d7_9) rfl rfl ?_
  refine o_istore W1 (L' := #[.val (.ref a1), .val .null, .val (.ref r1_1), .val (.int 3), .val (.int 0), .unset]) (pc' := 12) (hb hy d7_10) rfl rfl ?_
  refine o_iload W1 (pc' := 14) (hb hy d7_12) rfl rfl ?_
  refine o_iloadN W1 (pc' := 15) (hb hy d7_14) rfl rfl ?_
  refine o_icmpN W1 (pc' := 18) (hb hy d7_15) (XT.ii_ge_f (by decide)) rfl ?_
  refine o_aloadN W1 (pc' := 19) (hb hy d7_18) rfl rfl rfl ?_
  refine o_iload W1 (pc' := 21) (hb hy d7_19) rfl rfl ?_
  refine o_aaload W1 P1_1 rfl (v := (.ref gO1)) (i := 0) (by decide) (by decide) (by decide) rfl (pc' := 22) (hb hy d7_21) rfl ?_
  refine o_astore W1 (L' := #[.val (.ref a1), .val .null, .val (.ref r1_1), .val (.int 3), .val (.int 0), .val (.ref gO1)]) (pc' := 24) (hb hy d7_22) rfl rfl rfl ?_
  refine o_aload W1 (pc' := 26) (hb hy d7_24) rfl rfl rfl ?_
  refine o_getF W1 (w54 hw) Via.refl (FgO1_label.ext W1.ox) (pc' := 29) (hb hy d7_26) rfl ?_
  intro T2 W2
  refine o_aloadN W2 (pc' := 30) (hb hy d7_29) rfl rfl rfl ?_
  have c3 := (E_a1.keep K1)
  have c4 := (F_a1_value.keep K1 nin0)
  have c5 := (F_a1_coder.keep K1 nin0)
  have c6 := (V_a2.keep K1 nin0)
  have ok8 : own_ok [(117 : Int32), (110 : Int32), (105 : Int32), (102 : Int32), (111 : Int32), (114 : Int32), (109 : Int32)] := ⟨by simp only [List.mem_cons, List.not_mem_nil, or_false, forall_eq_or_imp, forall_eq, false_imp_iff, implies_true]; exact ⟨(by unfold own_b; decide), (by unfold own_b; decide), (by unfold own_b; decide), (by unfold own_b; decide), (by unfold own_b; decide), (by unfold own_b; decide), (by unfold own_b; decide)⟩, Nat.le_of_ble_eq_true rfl⟩
  have ok9 : own_ok l1 := hu7
  refine o_virtual W2 (y := (⟨"java/lang/String", "equals", "(Ljava/lang/Object;)Z"⟩ : MethodName)) (z := (⟨"java/lang/String", "equals", "(Ljava/lang/Object;)Z"⟩ : MethodName)) (kc := 0) (ks := 0) (Q := fun v hh L => ((v = some (.int 1) ∧ [(117 : Int32), (110 : Int32), (105 : Int32), (102 : Int32), (111 : Int32), (114 : Int32), (109 : Int32)] = l1) ∨ (v = some (.int 0) ∧ ¬ [(117 : Int32), (110 : Int32), (105 : Int32), (102 : Int32), (111 : Int32), (114 : Int32), (109 : Int32)] = l1)) ∧ L = [] ∧ hh = h1) (w56 hw) (w57 hw) (o_nf W2 rfl (w59 hw)) (w59 hw) (w58 hw) (by decide) (XgO8.ext W2.ox) (argsL := [(.ref a1)]) (StrChars.Road.eqW (W := 0) W2.2.2.2.1 (own_hE hw) (kI := 4) (w6 hw) (XgO8.ext W2.ox) (FgO8_value.ext W2.ox) (FgO8_coder.ext W2.ox) (VgO9.ext W2.ox) (own_codE ok8 rfl rfl) (own_up ok8) ok8.2 c3 c4 c5 c6 (own_cod ok9) (own_up ok9) ok9.2 (SgCS.ext W2.ox) NgCS (by decide) (by decide)) (by rw [hml]; rfl) (lenOf pd2 rfl) (S := []) rfl (by exact Nat.le_of_eq rfl) (pc' := 33) (hb hy d7_30) rfl (cells' := 1) (slots' := 3) rfl rfl (by decide) (by decide) (wy := []) (fun _ _ _ q => own_same q.2) all0 (fun _ _ => trivial) ?_
  intro v10 T10 h10 lo10 W10 K10 q10
  obtain rfl := own_eqv q10.1
  show Gl _ _ _ _ _ _ _ _ [(.int (own_eq [(117 : Int32), (110 : Int32), (105 : Int32), (102 : Int32), (111 : Int32), (114 : Int32), (109 : Int32)] l1))]
  refine o_ifY W10 (pc' := 39) (hb hy d7_33) (XT.i0_eq_t hc11) (by decide) rfl ?_
  refine o_iinc W10 (v := 1) (L' := #[.val (.ref a1), .val .null, .val (.ref r1_1), .val (.int 3), .val (.int 1), .val (.ref gO1)]) (pc' := 42) (hb hy d7_39) rfl (by decide) rfl rfl ?_
  refine o_goto W10 (pc' := 12) (hb hy d7_42) (by decide) rfl ?_
  refine o_iload W10 (pc' := 14) (hb hy d7_12) rfl rfl ?_
  refine o_iloadN W10 (pc' := 15) (hb hy d7_14) rfl rfl ?_
  refine o_icmpN W10 (pc' := 18) (hb hy d7_15) (XT.ii_ge_f (by decide)) rfl ?_
  refine o_aloadN W10 (pc' := 19) (hb hy d7_18) rfl rfl rfl ?_
  refine o_iload W10 (pc' := 21) (hb hy d7_19) rfl rfl ?_
  have c12 := (P1_1.keep K10 nin0)
  refine o_aaload W10 c12 rfl (v := (.ref gO4)) (i := 1) (by decide) (by decide) (by decide) rfl (pc' := 22) (hb hy d7_21) rfl ?_
  refine o_astore W10 (L' := #[.val (.ref a1), .val .null, .val (.ref r1_1), .val (.int 3), .val (.int 1), .val (.ref gO4)]) (pc' := 24) (hb hy d7_22) rfl rfl rfl ?_
  refine o_aload W10 (pc' := 26) (hb hy d7_24) rfl rfl rfl ?_
  refine o_getF W10 (w54 hw) Via.refl (FgO4_label.ext W10.ox) (pc' := 29) (hb hy d7_26) rfl ?_
  intro T13 W13
  refine o_aloadN W13 (pc' := 30) (hb hy d7_29) rfl rfl rfl ?_
  have c14 := (c3.keep K10)
  have c15 := (c4.keep K10 nin0)
  have c16 := (c5.keep K10 nin0)
  have c17 := (c6.keep K10 nin0)
  have ok18 : own_ok [(112 : Int32), (114 : Int32), (101 : Int32), (118 : Int32), (45 : Int32), (99 : Int32), (117 : Int32), (114 : Int32), (114 : Int32), (101 : Int32), (110 : Int32), (116 : Int32)] := ⟨by simp only [List.mem_cons, List.not_mem_nil, or_false, forall_eq_or_imp, forall_eq, false_imp_iff, implies_true]; exact ⟨(by unfold own_b; decide), (by unfold own_b; decide), (by unfold own_b; decide), (by unfold own_b; decide), (by unfold own_b; decide), (by unfold own_b; decide), (by unfold own_b; decide), (by unfold own_b; decide), (by unfold own_b; decide), (by unfold own_b; decide), (by unfold own_b; decide), (by unfold own_b; decide)⟩, Nat.le_of_ble_eq_true rfl⟩
  have ok19 : own_ok l1 := hu7
  refine o_virtual W13 (y := (⟨"java/lang/String", "equals", "(Ljava/lang/Object;)Z"⟩ : MethodName)) (z := (⟨"java/lang/String", "equals", "(Ljava/lang/Object;)Z"⟩ : MethodName)) (kc := 0) (ks := 0) (Q := fun v hh L => ((v = some (.int 1) ∧ [(112 : Int32), (114 : Int32), (101 : Int32), (118 : Int32), (45 : Int32), (99 : Int32), (117 : Int32), (114 : Int32), (114 : Int32), (101 : Int32), (110 : Int32), (116 : Int32)] = l1) ∨ (v = some (.int 0) ∧ ¬ [(112 : Int32), (114 : Int32), (101 : Int32), (118 : Int32), (45 : Int32), (99 : Int32), (117 : Int32), (114 : Int32), (114 : Int32), (101 : Int32), (110 : Int32), (116 : Int32)] = l1)) ∧ L = [] ∧ hh = h10) (w56 hw) (w57 hw) (o_nf W13 rfl (w59 hw)) (w59 hw) (w58 hw) (by decide) (XgO10.ext W13.ox) (argsL := [(.ref a1)]) (StrChars.Road.eqW (W := 0) W13.2.2.2.1 (own_hE hw) (kI := 4) (w6 hw) (XgO10.ext W13.ox) (FgO10_value.ext W13.ox) (FgO10_coder.ext W13.ox) (VgO11.ext W13.ox) (own_codE ok18 rfl rfl) (own_up ok18) ok18.2 c14 c15 c16 c17 (own_cod ok19) (own_up ok19) ok19.2 (SgCS.ext W13.ox) NgCS (by decide) (by decide)) (by rw [hml]; rfl) (lenOf pd2 rfl) (S := []) rfl (by exact Nat.le_of_eq rfl) (pc' := 33) (hb hy d7_30) rfl (cells' := 1) (slots' := 3) rfl rfl (by decide) (by decide) (wy := []) (fun _ _ _ q => own_same q.2) all0 (fun _ _ => trivial) ?_
  intro v20 T20 h20 lo20 W20 K20 q20
  obtain rfl := own_eqv q20.1
  show Gl _ _ _ _ _ _ _ _ [(.int (own_eq [(112 : Int32), (114 : Int32), (101 : Int32), (118 : Int32), (45 : Int32), (99 : Int32), (117 : Int32), (114 : Int32), (114 : Int32), (101 : Int32), (110 : Int32), (116 : Int32)] l1))]
  refine o_ifY W20 (pc' := 39) (hb hy d7_33) (XT.i0_eq_t hc21) (by decide) rfl ?_
  refine o_iinc W20 (v := 2) (L' := #[.val (.ref a1), .val .null, .val (.ref r1_1), .val (.int 3), .val (.int 2), .val (.ref gO4)]) (pc' := 42) (hb hy d7_39) rfl (by decide) rfl rfl ?_
  refine o_goto W20 (pc' := 12) (hb hy d7_42) (by decide) rfl ?_
  refine o_iload W20 (pc' := 14) (hb hy d7_12) rfl rfl ?_
  refine o_iloadN W20 (pc' := 15) (hb hy d7_14) rfl rfl ?_
  refine o_icmpN W20 (pc' := 18) (hb hy d7_15) (XT.ii_ge_f (by decide)) rfl ?_
  refine o_aloadN W20 (pc' := 19) (hb hy d7_18) rfl rfl rfl ?_
  refine o_iload W20 (pc' := 21) (hb hy d7_19) rfl rfl ?_
  have c22 := (c12.keep K20 nin0)
  refine o_aaload W20 c22 rfl (v := (.ref gO6)) (i := 2) (by decide) (by decide) (by decide) rfl (pc' := 22) (hb hy d7_21) rfl ?_
  refine o_astore W20 (L' := #[.val (.ref a1), .val .null, .val (.ref r1_1), .val (.int 3), .val (.int 2), .val (.ref gO6)]) (pc' := 24) (hb hy d7_22) rfl rfl rfl ?_
  refine o_aload W20 (pc' := 26) (hb hy d7_24) rfl rfl rfl ?_
  refine o_getF W20 (w54 hw) Via.refl (FgO6_label.ext W20.ox) (pc' := 29) (hb hy d7_26) rfl ?_
  intro T23 W23
  refine o_aloadN W23 (pc' := 30) (hb hy d7_29) rfl rfl rfl ?_
  have c24 := (c14.keep K20)
  have c25 := (c15.keep K20 nin0)
  have c26 := (c16.keep K20 nin0)
  have c27 := (c17.keep K20 nin0)
  have ok28 : own_ok [(100 : Int32), (105 : Int32), (115 : Int32), (116 : Int32), (97 : Int32), (110 : Int32), (99 : Int32), (101 : Int32)] := ⟨by simp only [List.mem_cons, List.not_mem_nil, or_false, forall_eq_or_imp, forall_eq, false_imp_iff, implies_true]; exact ⟨(by unfold own_b; decide), (by unfold own_b; decide), (by unfold own_b; decide), (by unfold own_b; decide), (by unfold own_b; decide), (by unfold own_b; decide), (by unfold own_b; decide), (by unfold own_b; decide)⟩, Nat.le_of_ble_eq_true rfl⟩
  have ok29 : own_ok l1 := hu7
  refine o_virtual W23 (y := (⟨"java/lang/String", "equals", "(Ljava/lang/Object;)Z"⟩ : MethodName)) (z := (⟨"java/lang/String", "equals", "(Ljava/lang/Object;)Z"⟩ : MethodName)) (kc := 0) (ks := 0) (Q := fun v hh L => ((v = some (.int 1) ∧ [(100 : Int32), (105 : Int32), (115 : Int32), (116 : Int32), (97 : Int32), (110 : Int32), (99 : Int32), (101 : Int32)] = l1) ∨ (v = some (.int 0) ∧ ¬ [(100 : Int32), (105 : Int32), (115 : Int32), (116 : Int32), (97 : Int32), (110 : Int32), (99 : Int32), (101 : Int32)] = l1)) ∧ L = [] ∧ hh = h20) (w56 hw) (w57 hw) (o_nf W23 rfl (w59 hw)) (w59 hw) (w58 hw) (by decide) (XgO12.ext W23.ox) (argsL := [(.ref a1)]) (StrChars.Road.eqW (W := 0) W23.2.2.2.1 (own_hE hw) (kI := 4) (w6 hw) (XgO12.ext W23.ox) (FgO12_value.ext W23.ox) (FgO12_coder.ext W23.ox) (VgO13.ext W23.ox) (own_codE ok28 rfl rfl) (own_up ok28) ok28.2 c24 c25 c26 c27 (own_cod ok29) (own_up ok29) ok29.2 (SgCS.ext W23.ox) NgCS (by decide) (by decide)) (by rw [hml]; rfl) (lenOf pd2 rfl) (S := []) rfl (by exact Nat.le_of_eq rfl) (pc' := 33) (hb hy d7_30) rfl (cells' := 1) (slots' := 3) rfl rfl (by decide) (by decide) (wy := []) (fun _ _ _ q => own_same q.2) all0 (fun _ _ => trivial) ?_
  intro v30 T30 h30 lo30 W30 K30 q30
  obtain rfl := own_eqv q30.1
  show Gl _ _ _ _ _ _ _ _ [(.int (own_eq [(100 : Int32), (105 : Int32), (115 : Int32), (116 : Int32), (97 : Int32), (110 : Int32), (99 : Int32), (101 : Int32)] l1))]
  refine o_ifY W30 (pc' := 39) (hb hy d7_33) (XT.i0_eq_t hc31) (by decide) rfl ?_
  refine o_iinc W30 (v := 3) (L' := #[.val (.ref a1), .val .null, .val (.ref r1_1), .val (.int 3), .val (.int 3), .val (.ref gO6)]) (pc' := 42) (hb hy d7_39) rfl (by decide) rfl rfl ?_
  refine o_goto W30 (pc' := 12) (hb hy d7_42) (by decide) rfl ?_
  refine o_iload W30 (pc' := 14) (hb hy d7_12) rfl rfl ?_
  refine o_iloadN W30 (pc' := 15) (hb hy d7_14) rfl rfl ?_
  refine o_icmpY W30 (pc' := 45) (hb hy d7_15) (XT.ii_ge_t (by decide)) (by decide) rfl ?_
  refine o_aloadN W30 (pc' := 46) (hb hy d7_45) rfl rfl rfl ?_
  exact o_retA W30 hlk (v := .null) hret rfl rfl (hb hy d7_46) (by decide) (by decide) rfl
theorem rm_law (l : Launch) (Z : State) (a0 : Array Value) (hw : ∀ d ∈ tables_1, d.before a0 Z = true) (gCS : Int32) (gO1 gO2 gO4 gO6 gO8 gO9 gO10 gO11 gO12 gO13 : Addr) (k_gO2 k_gO9 k_gO11 k_gO13 : ClassId) (p0 p1 p2 p3 : Int32) (h0 : Heap) (O0 : Old Z Z.heap.size h0) (SgO1_UNIFORM : Sta Z Z.heap "com/example/sessn/sessn/session/Weights" "UNIFORM" "Lcom/example/sessn/sessn/session/Weights;" (.ref gO1)) (SgCS : Sta Z Z.heap "java/lang/String" "COMPACT_STRINGS" "Z" (.int gCS)) (NgCS : ¬ (gCS = (0 : Int32))) (SgO2__VALUES : Sta Z Z.heap "com/example/sessn/sessn/session/Weights" "$VALUES" "[Lcom/example/sessn/sessn/session/Weights;" (.ref gO2)) (VgO2 : Arv Z Z.heap gO2 k_gO2 (.object "com/example/sessn/sessn/session/Weights") (3 : Int32) [(.ref gO1), (.ref gO4), (.ref gO6)] .null) (XgO2 : Exa Z Z.heap gO2 "[Lcom/example/sessn/sessn/session/Weights;") (FitgO2 : ∀ cl, Z.heap[gO2]? = some cl → FitC Z cl) (FgO1_label : Fld Z Z.heap gO1 "com/example/sessn/sessn/session/Weights" "label" "Ljava/lang/String;" (.ref gO8)) (XgO8 : Exa Z Z.heap gO8 "java/lang/String") (FgO8_value : Fld Z Z.heap gO8 "java/lang/String" "value" "[B" (.ref gO9)) (FgO8_coder : Fld Z Z.heap gO8 "java/lang/String" "coder" "B" (.int 0)) (VgO9 : Arv Z Z.heap gO9 k_gO9 .byte (7 : Int32) [(.int 117), (.int 110), (.int 105), (.int 102), (.int 111), (.int 114), (.int 109)] (.int 0)) (FgO4_label : Fld Z Z.heap gO4 "com/example/sessn/sessn/session/Weights" "label" "Ljava/lang/String;" (.ref gO10)) (XgO10 : Exa Z Z.heap gO10 "java/lang/String") (FgO10_value : Fld Z Z.heap gO10 "java/lang/String" "value" "[B" (.ref gO11)) (FgO10_coder : Fld Z Z.heap gO10 "java/lang/String" "coder" "B" (.int 0)) (VgO11 : Arv Z Z.heap gO11 k_gO11 .byte (12 : Int32) [(.int 112), (.int 114), (.int 101), (.int 118), (.int 45), (.int 99), (.int 117), (.int 114), (.int 114), (.int 101), (.int 110), (.int 116)] (.int 0)) (FgO6_label : Fld Z Z.heap gO6 "com/example/sessn/sessn/session/Weights" "label" "Ljava/lang/String;" (.ref gO12)) (XgO12 : Exa Z Z.heap gO12 "java/lang/String") (FgO12_value : Fld Z Z.heap gO12 "java/lang/String" "value" "[B" (.ref gO13)) (FgO12_coder : Fld Z Z.heap gO12 "java/lang/String" "coder" "B" (.int 0)) (VgO13 : Arv Z Z.heap gO13 k_gO13 .byte (8 : Int32) [(.int 100), (.int 105), (.int 115), (.int 116), (.int 97), (.int 110), (.int 99), (.int 101)] (.int 0)) (SgO4_PREV_CURRENT : Sta Z Z.heap "com/example/sessn/sessn/session/Weights" "PREV_CURRENT" "Lcom/example/sessn/sessn/session/Weights;" (.ref gO4)) (SgO6_DISTANCE : Sta Z Z.heap "com/example/sessn/sessn/session/Weights" "DISTANCE" "Lcom/example/sessn/sessn/session/Weights;" (.ref gO6)) :
    CtrN l Z x code maxLocals ret tables_1 room_1 #[(.int p0), (.int p1), (.int p2), (.int p3)] h0 [] (fun v _ => v = some (.int 1)) := by
  refine CtrN.intro (L0 := #[.val (.int p0), .val (.int p1), .val (.int p2), .val (.int p3), .unset, .unset, .unset, .unset, .unset, .unset, .unset, .unset, .unset, .unset, .unset, .unset, .unset, .unset, .unset]) (plainFor_of_name pn2) O0 (own_entry rfl) ?_
  intro p e s m below meth c T0 hy hml hret hlk hnm W0
  refine o_iloadN W0 (pc' := 1) (hb hy at_0) rfl rfl ?_
  refine o_iconst W0 (v := 3) (pc' := 2) (hb hy at_1) rfl rfl ?_
  refine o_iand W0 (v := (p0 &&& (3 : Int32))) (pc' := 3) (hb hy at_2) rfl rfl ?_
  refine o_istore W0 (L' := #[.val (.int p0), .val (.int p1), .val (.int p2), .val (.int p3), .val (.int (p0 &&& (3 : Int32))), .unset, .unset, .unset, .unset, .unset, .unset, .unset, .unset, .unset, .unset, .unset, .unset, .unset, .unset]) (pc' := 5) (hb hy at_3) rfl rfl ?_
  refine o_iloadN W0 (pc' := 6) (hb hy at_5) rfl rfl ?_
  refine o_iconst W0 (v := 4) (pc' := 7) (hb hy at_6) rfl rfl ?_
  refine o_iand W0 (v := (p0 &&& (4 : Int32))) (pc' := 8) (hb hy at_7) rfl rfl ?_
  by_cases hb0 : (p0 &&& (4 : Int32)) = (0 : Int32)
  · refine o_ifY W0 (pc' := 15) (hb hy at_8) (XT.i0_eq_t hb0) (by decide) rfl ?_
    refine o_iconst W0 (v := 0) (pc' := 16) (hb hy at_15) rfl rfl ?_
    refine o_istore W0 (L' := #[.val (.int p0), .val (.int p1), .val (.int p2), .val (.int p3), .val (.int (p0 &&& (3 : Int32))), .val (.int 0), .unset, .unset, .unset, .unset, .unset, .unset, .unset, .unset, .unset, .unset, .unset, .unset, .unset]) (pc' := 18) (hb hy at_16) rfl rfl ?_
    refine o_iloadN W0 (pc' := 19) (hb hy at_18) rfl rfl ?_
    refine o_sipush W0 (v := 255) (pc' := 22) (hb hy at_19) (by decide) rfl ?_
    refine o_iand W0 (v := (p2 &&& (255 : Int32))) (pc' := 23) (hb hy at_22) rfl rfl ?_
    refine o_i2c W0 (v := (p2 &&& (255 : Int32))) (pc' := 24) (hb hy at_23) (own_i2c (own_b255 _)) rfl ?_
    refine o_istore W0 (L' := #[.val (.int p0), .val (.int p1), .val (.int p2), .val (.int p3), .val (.int (p0 &&& (3 : Int32))), .val (.int 0), .val (.int (p2 &&& (255 : Int32))), .unset, .unset, .unset, .unset, .unset, .unset, .unset, .unset, .unset, .unset, .unset, .unset]) (pc' := 26) (hb hy at_24) rfl rfl ?_
    refine o_bipush W0 (v := 7) (pc' := 28) (hb hy at_26) (by decide) rfl ?_
    refine o_newP W0 (aty := .char) (w0 hw) (fun _ _ => trivial) (by decide) (cap := 7) (by decide) (by decide) (pc' := 30) (hb hy at_28) rfl (cells' := 1) (slots' := 7) rfl rfl (by decide) (by decide) (vs := [(.int 0), (.int 0), (.int 0), (.int 0), (.int 0), (.int 0), (.int 0)]) (dv := (.int 0)) rfl rfl ?_
    intro b1 T1 h1 k1 W1 E1 ge1 gz1 gb1 V1
    refine o_dup W1 (pc' := 31) (hb hy at_30) rfl rfl ?_
    refine o_iconst W1 (v := 0) (pc' := 32) (hb hy at_31) rfl rfl ?_
    refine o_bipush W1 (v := 117) (pc' := 34) (hb hy at_32) (by decide) rfl ?_
    refine o_stC W1 V1 (i := 0) (x' := (117 : Int32)) (by decide) (by decide) (by decide) (Nat.lt_of_sub_eq_succ rfl) (by decide) (vs' := [(.int 117), (.int 0), (.int 0), (.int 0), (.int 0), (.int 0), (.int 0)]) rfl gz1 (Or.inr gb1) (fun _ _ => trivial) (pc' := 35) (hb hy at_34) rfl ?_
    intro T2 h2 lo2 W2 R2 V2
    refine o_dup W2 (pc' := 36) (hb hy at_35) rfl rfl ?_
    refine o_iconst W2 (v := 1) (pc' := 37) (hb hy at_36) rfl rfl ?_
    refine o_bipush W2 (v := 110) (pc' := 39) (hb hy at_37) (by decide) rfl ?_
    refine o_stC W2 V2 (i := 1) (x' := (110 : Int32)) (by decide) (by decide) (by decide) (Nat.lt_of_sub_eq_succ rfl) (by decide) (vs' := [(.int 117), (.int 110), (.int 0), (.int 0), (.int 0), (.int 0), (.int 0)]) rfl gz1 (Or.inr gb1) (fun _ _ => trivial) (pc' := 40) (hb hy at_39) rfl ?_
    intro T3 h3 lo3 W3 R3 V3
    refine o_dup W3 (pc' := 41) (hb hy at_40) rfl rfl ?_
    refine o_iconst W3 (v := 2) (pc' := 42) (hb hy at_41) rfl rfl ?_
    refine o_bipush W3 (v := 105) (pc' := 44) (hb hy at_42) (by decide) rfl ?_
    refine o_stC W3 V3 (i := 2) (x' := (105 : Int32)) (by decide) (by decide) (by decide) (Nat.lt_of_sub_eq_succ rfl) (by decide) (vs' := [(.int 117), (.int 110), (.int 105), (.int 0), (.int 0), (.int 0), (.int 0)]) rfl gz1 (Or.inr gb1) (fun _ _ => trivial) (pc' := 45) (hb hy at_44) rfl ?_
    intro T4 h4 lo4 W4 R4 V4
    refine o_dup W4 (pc' := 46) (hb hy at_45) rfl rfl ?_
    refine o_iconst W4 (v := 3) (pc' := 47) (hb hy at_46) rfl rfl ?_
    refine o_bipush W4 (v := 102) (pc' := 49) (hb hy at_47) (by decide) rfl ?_
    refine o_stC W4 V4 (i := 3) (x' := (102 : Int32)) (by decide) (by decide) (by decide) (Nat.lt_of_sub_eq_succ rfl) (by decide) (vs' := [(.int 117), (.int 110), (.int 105), (.int 102), (.int 0), (.int 0), (.int 0)]) rfl gz1 (Or.inr gb1) (fun _ _ => trivial) (pc' := 50) (hb hy at_49) rfl ?_
    intro T5 h5 lo5 W5 R5 V5
    refine o_dup W5 (pc' := 51) (hb hy at_50) rfl rfl ?_
    refine o_iconst W5 (v := 4) (pc' := 52) (hb hy at_51) rfl rfl ?_
    refine o_bipush W5 (v := 111) (pc' := 54) (hb hy at_52) (by decide) rfl ?_
    refine o_stC W5 V5 (i := 4) (x' := (111 : Int32)) (by decide) (by decide) (by decide) (Nat.lt_of_sub_eq_succ rfl) (by decide) (vs' := [(.int 117), (.int 110), (.int 105), (.int 102), (.int 111), (.int 0), (.int 0)]) rfl gz1 (Or.inr gb1) (fun _ _ => trivial) (pc' := 55) (hb hy at_54) rfl ?_
    intro T6 h6 lo6 W6 R6 V6
    refine o_dup W6 (pc' := 56) (hb hy at_55) rfl rfl ?_
    refine o_iconst W6 (v := 5) (pc' := 57) (hb hy at_56) rfl rfl ?_
    refine o_bipush W6 (v := 114) (pc' := 59) (hb hy at_57) (by decide) rfl ?_
    refine o_stC W6 V6 (i := 5) (x' := (114 : Int32)) (by decide) (by decide) (by decide) (Nat.lt_of_sub_eq_succ rfl) (by decide) (vs' := [(.int 117), (.int 110), (.int 105), (.int 102), (.int 111), (.int 114), (.int 0)]) rfl gz1 (Or.inr gb1) (fun _ _ => trivial) (pc' := 60) (hb hy at_59) rfl ?_
    intro T7 h7 lo7 W7 R7 V7
    refine o_dup W7 (pc' := 61) (hb hy at_60) rfl rfl ?_
    refine o_bipush W7 (v := 6) (pc' := 63) (hb hy at_61) (by decide) rfl ?_
    refine o_bipush W7 (v := 109) (pc' := 65) (hb hy at_63) (by decide) rfl ?_
    refine o_stC W7 V7 (i := 6) (x' := (109 : Int32)) (by decide) (by decide) (by decide) (Nat.lt_of_sub_eq_succ rfl) (by decide) (vs' := [(.int 117), (.int 110), (.int 105), (.int 102), (.int 111), (.int 114), (.int 109)]) rfl gz1 (Or.inr gb1) (fun _ _ => trivial) (pc' := 66) (hb hy at_65) rfl ?_
    intro T8 h8 lo8 W8 R8 V8
    refine o_astore W8 (L' := #[.val (.int p0), .val (.int p1), .val (.int p2), .val (.int p3), .val (.int (p0 &&& (3 : Int32))), .val (.int 0), .val (.int (p2 &&& (255 : Int32))), .val (.ref b1), .unset, .unset, .unset, .unset, .unset, .unset, .unset, .unset, .unset, .unset, .unset]) (pc' := 68) (hb hy at_66) rfl rfl rfl ?_
    refine o_bipush W8 (v := 12) (pc' := 70) (hb hy at_68) (by decide) rfl ?_
    refine o_newP W8 (aty := .char) (w0 hw) (fun _ _ => trivial) (by decide) (cap := 12) (by decide) (by decide) (pc' := 72) (hb hy at_70) rfl (cells' := 2) (slots' := 19) rfl rfl (by decide) (by decide) (vs := [(.int 0), (.int 0), (.int 0), (.int 0), (.int 0), (.int 0), (.int 0), (.int 0), (.int 0), (.int 0), (.int 0), (.int 0)]) (dv := (.int 0)) rfl rfl ?_
    intro b9 T9 h9 k9 W9 E9 ge9 gz9 gb9 V9
    refine o_dup W9 (pc' := 73) (hb hy at_72) rfl rfl ?_
    refine o_iconst W9 (v := 0) (pc' := 74) (hb hy at_73) rfl rfl ?_
    refine o_bipush W9 (v := 112) (pc' := 76) (hb hy at_74) (by decide) rfl ?_
    refine o_stC W9 V9 (i := 0) (x' := (112 : Int32)) (by decide) (by decide) (by decide) (Nat.lt_of_sub_eq_succ rfl) (by decide) (vs' := [(.int 112), (.int 0), (.int 0), (.int 0), (.int 0), (.int 0), (.int 0), (.int 0), (.int 0), (.int 0), (.int 0), (.int 0)]) rfl gz9 (Or.inr gb9) (fun _ _ => trivial) (pc' := 77) (hb hy at_76) rfl ?_
    intro T10 h10 lo10 W10 R10 V10
    refine o_dup W10 (pc' := 78) (hb hy at_77) rfl rfl ?_
    refine o_iconst W10 (v := 1) (pc' := 79) (hb hy at_78) rfl rfl ?_
    refine o_bipush W10 (v := 114) (pc' := 81) (hb hy at_79) (by decide) rfl ?_
    refine o_stC W10 V10 (i := 1) (x' := (114 : Int32)) (by decide) (by decide) (by decide) (Nat.lt_of_sub_eq_succ rfl) (by decide) (vs' := [(.int 112), (.int 114), (.int 0), (.int 0), (.int 0), (.int 0), (.int 0), (.int 0), (.int 0), (.int 0), (.int 0), (.int 0)]) rfl gz9 (Or.inr gb9) (fun _ _ => trivial) (pc' := 82) (hb hy at_81) rfl ?_
    intro T11 h11 lo11 W11 R11 V11
    refine o_dup W11 (pc' := 83) (hb hy at_82) rfl rfl ?_
    refine o_iconst W11 (v := 2) (pc' := 84) (hb hy at_83) rfl rfl ?_
    refine o_bipush W11 (v := 101) (pc' := 86) (hb hy at_84) (by decide) rfl ?_
    refine o_stC W11 V11 (i := 2) (x' := (101 : Int32)) (by decide) (by decide) (by decide) (Nat.lt_of_sub_eq_succ rfl) (by decide) (vs' := [(.int 112), (.int 114), (.int 101), (.int 0), (.int 0), (.int 0), (.int 0), (.int 0), (.int 0), (.int 0), (.int 0), (.int 0)]) rfl gz9 (Or.inr gb9) (fun _ _ => trivial) (pc' := 87) (hb hy at_86) rfl ?_
    intro T12 h12 lo12 W12 R12 V12
    refine o_dup W12 (pc' := 88) (hb hy at_87) rfl rfl ?_
    refine o_iconst W12 (v := 3) (pc' := 89) (hb hy at_88) rfl rfl ?_
    refine o_bipush W12 (v := 118) (pc' := 91) (hb hy at_89) (by decide) rfl ?_
    refine o_stC W12 V12 (i := 3) (x' := (118 : Int32)) (by decide) (by decide) (by decide) (Nat.lt_of_sub_eq_succ rfl) (by decide) (vs' := [(.int 112), (.int 114), (.int 101), (.int 118), (.int 0), (.int 0), (.int 0), (.int 0), (.int 0), (.int 0), (.int 0), (.int 0)]) rfl gz9 (Or.inr gb9) (fun _ _ => trivial) (pc' := 92) (hb hy at_91) rfl ?_
    intro T13 h13 lo13 W13 R13 V13
    refine o_dup W13 (pc' := 93) (hb hy at_92) rfl rfl ?_
    refine o_iconst W13 (v := 4) (pc' := 94) (hb hy at_93) rfl rfl ?_
    refine o_bipush W13 (v := 45) (pc' := 96) (hb hy at_94) (by decide) rfl ?_
    refine o_stC W13 V13 (i := 4) (x' := (45 : Int32)) (by decide) (by decide) (by decide) (Nat.lt_of_sub_eq_succ rfl) (by decide) (vs' := [(.int 112), (.int 114), (.int 101), (.int 118), (.int 45), (.int 0), (.int 0), (.int 0), (.int 0), (.int 0), (.int 0), (.int 0)]) rfl gz9 (Or.inr gb9) (fun _ _ => trivial) (pc' := 97) (hb hy at_96) rfl ?_
    intro T14 h14 lo14 W14 R14 V14
    refine o_dup W14 (pc' := 98) (hb hy at_97) rfl rfl ?_
    refine o_iconst W14 (v := 5) (pc' := 99) (hb hy at_98) rfl rfl ?_
    refine o_bipush W14 (v := 99) (pc' := 101) (hb hy at_99) (by decide) rfl ?_
    refine o_stC W14 V14 (i := 5) (x' := (99 : Int32)) (by decide) (by decide) (by decide) (Nat.lt_of_sub_eq_succ rfl) (by decide) (vs' := [(.int 112), (.int 114), (.int 101), (.int 118), (.int 45), (.int 99), (.int 0), (.int 0), (.int 0), (.int 0), (.int 0), (.int 0)]) rfl gz9 (Or.inr gb9) (fun _ _ => trivial) (pc' := 102) (hb hy at_101) rfl ?_
    intro T15 h15 lo15 W15 R15 V15
    refine o_dup W15 (pc' := 103) (hb hy at_102) rfl rfl ?_
    refine o_bipush W15 (v := 6) (pc' := 105) (hb hy at_103) (by decide) rfl ?_
    refine o_bipush W15 (v := 117) (pc' := 107) (hb hy at_105) (by decide) rfl ?_
    refine o_stC W15 V15 (i := 6) (x' := (117 : Int32)) (by decide) (by decide) (by decide) (Nat.lt_of_sub_eq_succ rfl) (by decide) (vs' := [(.int 112), (.int 114), (.int 101), (.int 118), (.int 45), (.int 99), (.int 117), (.int 0), (.int 0), (.int 0), (.int 0), (.int 0)]) rfl gz9 (Or.inr gb9) (fun _ _ => trivial) (pc' := 108) (hb hy at_107) rfl ?_
    intro T16 h16 lo16 W16 R16 V16
    refine o_dup W16 (pc' := 109) (hb hy at_108) rfl rfl ?_
    refine o_bipush W16 (v := 7) (pc' := 111) (hb hy at_109) (by decide) rfl ?_
    refine o_bipush W16 (v := 114) (pc' := 113) (hb hy at_111) (by decide) rfl ?_
    refine o_stC W16 V16 (i := 7) (x' := (114 : Int32)) (by decide) (by decide) (by decide) (Nat.lt_of_sub_eq_succ rfl) (by decide) (vs' := [(.int 112), (.int 114), (.int 101), (.int 118), (.int 45), (.int 99), (.int 117), (.int 114), (.int 0), (.int 0), (.int 0), (.int 0)]) rfl gz9 (Or.inr gb9) (fun _ _ => trivial) (pc' := 114) (hb hy at_113) rfl ?_
    intro T17 h17 lo17 W17 R17 V17
    refine o_dup W17 (pc' := 115) (hb hy at_114) rfl rfl ?_
    refine o_bipush W17 (v := 8) (pc' := 117) (hb hy at_115) (by decide) rfl ?_
    refine o_bipush W17 (v := 114) (pc' := 119) (hb hy at_117) (by decide) rfl ?_
    refine o_stC W17 V17 (i := 8) (x' := (114 : Int32)) (by decide) (by decide) (by decide) (Nat.lt_of_sub_eq_succ rfl) (by decide) (vs' := [(.int 112), (.int 114), (.int 101), (.int 118), (.int 45), (.int 99), (.int 117), (.int 114), (.int 114), (.int 0), (.int 0), (.int 0)]) rfl gz9 (Or.inr gb9) (fun _ _ => trivial) (pc' := 120) (hb hy at_119) rfl ?_
    intro T18 h18 lo18 W18 R18 V18
    refine o_dup W18 (pc' := 121) (hb hy at_120) rfl rfl ?_
    refine o_bipush W18 (v := 9) (pc' := 123) (hb hy at_121) (by decide) rfl ?_
    refine o_bipush W18 (v := 101) (pc' := 125) (hb hy at_123) (by decide) rfl ?_
    refine o_stC W18 V18 (i := 9) (x' := (101 : Int32)) (by decide) (by decide) (by decide) (Nat.lt_of_sub_eq_succ rfl) (by decide) (vs' := [(.int 112), (.int 114), (.int 101), (.int 118), (.int 45), (.int 99), (.int 117), (.int 114), (.int 114), (.int 101), (.int 0), (.int 0)]) rfl gz9 (Or.inr gb9) (fun _ _ => trivial) (pc' := 126) (hb hy at_125) rfl ?_
    intro T19 h19 lo19 W19 R19 V19
    refine o_dup W19 (pc' := 127) (hb hy at_126) rfl rfl ?_
    refine o_bipush W19 (v := 10) (pc' := 129) (hb hy at_127) (by decide) rfl ?_
    refine o_bipush W19 (v := 110) (pc' := 131) (hb hy at_129) (by decide) rfl ?_
    refine o_stC W19 V19 (i := 10) (x' := (110 : Int32)) (by decide) (by decide) (by decide) (Nat.lt_of_sub_eq_succ rfl) (by decide) (vs' := [(.int 112), (.int 114), (.int 101), (.int 118), (.int 45), (.int 99), (.int 117), (.int 114), (.int 114), (.int 101), (.int 110), (.int 0)]) rfl gz9 (Or.inr gb9) (fun _ _ => trivial) (pc' := 132) (hb hy at_131) rfl ?_
    intro T20 h20 lo20 W20 R20 V20
    refine o_dup W20 (pc' := 133) (hb hy at_132) rfl rfl ?_
    refine o_bipush W20 (v := 11) (pc' := 135) (hb hy at_133) (by decide) rfl ?_
    refine o_bipush W20 (v := 116) (pc' := 137) (hb hy at_135) (by decide) rfl ?_
    refine o_stC W20 V20 (i := 11) (x' := (116 : Int32)) (by decide) (by decide) (by decide) (Nat.lt_of_sub_eq_succ rfl) (by decide) (vs' := [(.int 112), (.int 114), (.int 101), (.int 118), (.int 45), (.int 99), (.int 117), (.int 114), (.int 114), (.int 101), (.int 110), (.int 116)]) rfl gz9 (Or.inr gb9) (fun _ _ => trivial) (pc' := 138) (hb hy at_137) rfl ?_
    intro T21 h21 lo21 W21 R21 V21
    refine o_astore W21 (L' := #[.val (.int p0), .val (.int p1), .val (.int p2), .val (.int p3), .val (.int (p0 &&& (3 : Int32))), .val (.int 0), .val (.int (p2 &&& (255 : Int32))), .val (.ref b1), .val (.ref b9), .unset, .unset, .unset, .unset, .unset, .unset, .unset, .unset, .unset, .unset]) (pc' := 140) (hb hy at_138) rfl rfl rfl ?_
    refine o_bipush W21 (v := 8) (pc' := 142) (hb hy at_140) (by decide) rfl ?_
    refine o_newP W21 (aty := .char) (w0 hw) (fun _ _ => trivial) (by decide) (cap := 8) (by decide) (by decide) (pc' := 144) (hb hy at_142) rfl (cells' := 3) (slots' := 27) rfl rfl (by decide) (by decide) (vs := [(.int 0), (.int 0), (.int 0), (.int 0), (.int 0), (.int 0), (.int 0), (.int 0)]) (dv := (.int 0)) rfl rfl ?_
    intro b22 T22 h22 k22 W22 E22 ge22 gz22 gb22 V22
    refine o_dup W22 (pc' := 145) (hb hy at_144) rfl rfl ?_
    refine o_iconst W22 (v := 0) (pc' := 146) (hb hy at_145) rfl rfl ?_
    refine o_bipush W22 (v := 100) (pc' := 148) (hb hy at_146) (by decide) rfl ?_
    refine o_stC W22 V22 (i := 0) (x' := (100 : Int32)) (by decide) (by decide) (by decide) (Nat.lt_of_sub_eq_succ rfl) (by decide) (vs' := [(.int 100), (.int 0), (.int 0), (.int 0), (.int 0), (.int 0), (.int 0), (.int 0)]) rfl gz22 (Or.inr gb22) (fun _ _ => trivial) (pc' := 149) (hb hy at_148) rfl ?_
    intro T23 h23 lo23 W23 R23 V23
    refine o_dup W23 (pc' := 150) (hb hy at_149) rfl rfl ?_
    refine o_iconst W23 (v := 1) (pc' := 151) (hb hy at_150) rfl rfl ?_
    refine o_bipush W23 (v := 105) (pc' := 153) (hb hy at_151) (by decide) rfl ?_
    refine o_stC W23 V23 (i := 1) (x' := (105 : Int32)) (by decide) (by decide) (by decide) (Nat.lt_of_sub_eq_succ rfl) (by decide) (vs' := [(.int 100), (.int 105), (.int 0), (.int 0), (.int 0), (.int 0), (.int 0), (.int 0)]) rfl gz22 (Or.inr gb22) (fun _ _ => trivial) (pc' := 154) (hb hy at_153) rfl ?_
    intro T24 h24 lo24 W24 R24 V24
    refine o_dup W24 (pc' := 155) (hb hy at_154) rfl rfl ?_
    refine o_iconst W24 (v := 2) (pc' := 156) (hb hy at_155) rfl rfl ?_
    refine o_bipush W24 (v := 115) (pc' := 158) (hb hy at_156) (by decide) rfl ?_
    refine o_stC W24 V24 (i := 2) (x' := (115 : Int32)) (by decide) (by decide) (by decide) (Nat.lt_of_sub_eq_succ rfl) (by decide) (vs' := [(.int 100), (.int 105), (.int 115), (.int 0), (.int 0), (.int 0), (.int 0), (.int 0)]) rfl gz22 (Or.inr gb22) (fun _ _ => trivial) (pc' := 159) (hb hy at_158) rfl ?_
    intro T25 h25 lo25 W25 R25 V25
    refine o_dup W25 (pc' := 160) (hb hy at_159) rfl rfl ?_
    refine o_iconst W25 (v := 3) (pc' := 161) (hb hy at_160) rfl rfl ?_
    refine o_bipush W25 (v := 116) (pc' := 163) (hb hy at_161) (by decide) rfl ?_
    refine o_stC W25 V25 (i := 3) (x' := (116 : Int32)) (by decide) (by decide) (by decide) (Nat.lt_of_sub_eq_succ rfl) (by decide) (vs' := [(.int 100), (.int 105), (.int 115), (.int 116), (.int 0), (.int 0), (.int 0), (.int 0)]) rfl gz22 (Or.inr gb22) (fun _ _ => trivial) (pc' := 164) (hb hy at_163) rfl ?_
    intro T26 h26 lo26 W26 R26 V26
    refine o_dup W26 (pc' := 165) (hb hy at_164) rfl rfl ?_
    refine o_iconst W26 (v := 4) (pc' := 166) (hb hy at_165) rfl rfl ?_
    refine o_bipush W26 (v := 97) (pc' := 168) (hb hy at_166) (by decide) rfl ?_
    refine o_stC W26 V26 (i := 4) (x' := (97 : Int32)) (by decide) (by decide) (by decide) (Nat.lt_of_sub_eq_succ rfl) (by decide) (vs' := [(.int 100), (.int 105), (.int 115), (.int 116), (.int 97), (.int 0), (.int 0), (.int 0)]) rfl gz22 (Or.inr gb22) (fun _ _ => trivial) (pc' := 169) (hb hy at_168) rfl ?_
    intro T27 h27 lo27 W27 R27 V27
    refine o_dup W27 (pc' := 170) (hb hy at_169) rfl rfl ?_
    refine o_iconst W27 (v := 5) (pc' := 171) (hb hy at_170) rfl rfl ?_
    refine o_bipush W27 (v := 110) (pc' := 173) (hb hy at_171) (by decide) rfl ?_
    refine o_stC W27 V27 (i := 5) (x' := (110 : Int32)) (by decide) (by decide) (by decide) (Nat.lt_of_sub_eq_succ rfl) (by decide) (vs' := [(.int 100), (.int 105), (.int 115), (.int 116), (.int 97), (.int 110), (.int 0), (.int 0)]) rfl gz22 (Or.inr gb22) (fun _ _ => trivial) (pc' := 174) (hb hy at_173) rfl ?_
    intro T28 h28 lo28 W28 R28 V28
    refine o_dup W28 (pc' := 175) (hb hy at_174) rfl rfl ?_
    refine o_bipush W28 (v := 6) (pc' := 177) (hb hy at_175) (by decide) rfl ?_
    refine o_bipush W28 (v := 99) (pc' := 179) (hb hy at_177) (by decide) rfl ?_
    refine o_stC W28 V28 (i := 6) (x' := (99 : Int32)) (by decide) (by decide) (by decide) (Nat.lt_of_sub_eq_succ rfl) (by decide) (vs' := [(.int 100), (.int 105), (.int 115), (.int 116), (.int 97), (.int 110), (.int 99), (.int 0)]) rfl gz22 (Or.inr gb22) (fun _ _ => trivial) (pc' := 180) (hb hy at_179) rfl ?_
    intro T29 h29 lo29 W29 R29 V29
    refine o_dup W29 (pc' := 181) (hb hy at_180) rfl rfl ?_
    refine o_bipush W29 (v := 7) (pc' := 183) (hb hy at_181) (by decide) rfl ?_
    refine o_bipush W29 (v := 101) (pc' := 185) (hb hy at_183) (by decide) rfl ?_
    refine o_stC W29 V29 (i := 7) (x' := (101 : Int32)) (by decide) (by decide) (by decide) (Nat.lt_of_sub_eq_succ rfl) (by decide) (vs' := [(.int 100), (.int 105), (.int 115), (.int 116), (.int 97), (.int 110), (.int 99), (.int 101)]) rfl gz22 (Or.inr gb22) (fun _ _ => trivial) (pc' := 186) (hb hy at_185) rfl ?_
    intro T30 h30 lo30 W30 R30 V30
    refine o_astore W30 (L' := #[.val (.int p0), .val (.int p1), .val (.int p2), .val (.int p3), .val (.int (p0 &&& (3 : Int32))), .val (.int 0), .val (.int (p2 &&& (255 : Int32))), .val (.ref b1), .val (.ref b9), .val (.ref b22), .unset, .unset, .unset, .unset, .unset, .unset, .unset, .unset, .unset]) (pc' := 188) (hb hy at_186) rfl rfl rfl ?_
    refine o_iconst W30 (v := 3) (pc' := 189) (hb hy at_188) rfl rfl ?_
    refine o_newP W30 (aty := .char) (w0 hw) (fun _ _ => trivial) (by decide) (cap := 3) (by decide) (by decide) (pc' := 191) (hb hy at_189) rfl (cells' := 4) (slots' := 30) rfl rfl (by decide) (by decide) (vs := [(.int 0), (.int 0), (.int 0)]) (dv := (.int 0)) rfl rfl ?_
    intro b31 T31 h31 k31 W31 E31 ge31 gz31 gb31 V31
    refine o_astore W31 (L' := #[.val (.int p0), .val (.int p1), .val (.int p2), .val (.int p3), .val (.int (p0 &&& (3 : Int32))), .val (.int 0), .val (.int (p2 &&& (255 : Int32))), .val (.ref b1), .val (.ref b9), .val (.ref b22), .val (.ref b31), .unset, .unset, .unset, .unset, .unset, .unset, .unset, .unset]) (pc' := 193) (hb hy at_191) rfl rfl rfl ?_
    refine o_bipush W31 (v := 7) (pc' := 195) (hb hy at_193) (by decide) rfl ?_
    refine o_newP W31 (aty := .char) (w0 hw) (fun _ _ => trivial) (by decide) (cap := 7) (by decide) (by decide) (pc' := 197) (hb hy at_195) rfl (cells' := 5) (slots' := 37) rfl rfl (by decide) (by decide) (vs := [(.int 0), (.int 0), (.int 0), (.int 0), (.int 0), (.int 0), (.int 0)]) (dv := (.int 0)) rfl rfl ?_
    intro b32 T32 h32 k32 W32 E32 ge32 gz32 gb32 V32
    refine o_dup W32 (pc' := 198) (hb hy at_197) rfl rfl ?_
    refine o_iconst W32 (v := 0) (pc' := 199) (hb hy at_198) rfl rfl ?_
    refine o_bipush W32 (v := 100) (pc' := 201) (hb hy at_199) (by decide) rfl ?_
    refine o_stC W32 V32 (i := 0) (x' := (100 : Int32)) (by decide) (by decide) (by decide) (Nat.lt_of_sub_eq_succ rfl) (by decide) (vs' := [(.int 100), (.int 0), (.int 0), (.int 0), (.int 0), (.int 0), (.int 0)]) rfl gz32 (Or.inr gb32) (fun _ _ => trivial) (pc' := 202) (hb hy at_201) rfl ?_
    intro T33 h33 lo33 W33 R33 V33
    refine o_dup W33 (pc' := 203) (hb hy at_202) rfl rfl ?_
    refine o_iconst W33 (v := 1) (pc' := 204) (hb hy at_203) rfl rfl ?_
    refine o_bipush W33 (v := 105) (pc' := 206) (hb hy at_204) (by decide) rfl ?_
    refine o_stC W33 V33 (i := 1) (x' := (105 : Int32)) (by decide) (by decide) (by decide) (Nat.lt_of_sub_eq_succ rfl) (by decide) (vs' := [(.int 100), (.int 105), (.int 0), (.int 0), (.int 0), (.int 0), (.int 0)]) rfl gz32 (Or.inr gb32) (fun _ _ => trivial) (pc' := 207) (hb hy at_206) rfl ?_
    intro T34 h34 lo34 W34 R34 V34
    refine o_dup W34 (pc' := 208) (hb hy at_207) rfl rfl ?_
    refine o_iconst W34 (v := 2) (pc' := 209) (hb hy at_208) rfl rfl ?_
    refine o_bipush W34 (v := 115) (pc' := 211) (hb hy at_209) (by decide) rfl ?_
    refine o_stC W34 V34 (i := 2) (x' := (115 : Int32)) (by decide) (by decide) (by decide) (Nat.lt_of_sub_eq_succ rfl) (by decide) (vs' := [(.int 100), (.int 105), (.int 115), (.int 0), (.int 0), (.int 0), (.int 0)]) rfl gz32 (Or.inr gb32) (fun _ _ => trivial) (pc' := 212) (hb hy at_211) rfl ?_
    intro T35 h35 lo35 W35 R35 V35
    refine o_dup W35 (pc' := 213) (hb hy at_212) rfl rfl ?_
    refine o_iconst W35 (v := 3) (pc' := 214) (hb hy at_213) rfl rfl ?_
    refine o_bipush W35 (v := 116) (pc' := 216) (hb hy at_214) (by decide) rfl ?_
    refine o_stC W35 V35 (i := 3) (x' := (116 : Int32)) (by decide) (by decide) (by decide) (Nat.lt_of_sub_eq_succ rfl) (by decide) (vs' := [(.int 100), (.int 105), (.int 115), (.int 116), (.int 0), (.int 0), (.int 0)]) rfl gz32 (Or.inr gb32) (fun _ _ => trivial) (pc' := 217) (hb hy at_216) rfl ?_
    intro T36 h36 lo36 W36 R36 V36
    refine o_dup W36 (pc' := 218) (hb hy at_217) rfl rfl ?_
    refine o_iconst W36 (v := 4) (pc' := 219) (hb hy at_218) rfl rfl ?_
    refine o_bipush W36 (v := 97) (pc' := 221) (hb hy at_219) (by decide) rfl ?_
    refine o_stC W36 V36 (i := 4) (x' := (97 : Int32)) (by decide) (by decide) (by decide) (Nat.lt_of_sub_eq_succ rfl) (by decide) (vs' := [(.int 100), (.int 105), (.int 115), (.int 116), (.int 97), (.int 0), (.int 0)]) rfl gz32 (Or.inr gb32) (fun _ _ => trivial) (pc' := 222) (hb hy at_221) rfl ?_
    intro T37 h37 lo37 W37 R37 V37
    refine o_dup W37 (pc' := 223) (hb hy at_222) rfl rfl ?_
    refine o_iconst W37 (v := 5) (pc' := 224) (hb hy at_223) rfl rfl ?_
    refine o_bipush W37 (v := 110) (pc' := 226) (hb hy at_224) (by decide) rfl ?_
    refine o_stC W37 V37 (i := 5) (x' := (110 : Int32)) (by decide) (by decide) (by decide) (Nat.lt_of_sub_eq_succ rfl) (by decide) (vs' := [(.int 100), (.int 105), (.int 115), (.int 116), (.int 97), (.int 110), (.int 0)]) rfl gz32 (Or.inr gb32) (fun _ _ => trivial) (pc' := 227) (hb hy at_226) rfl ?_
    intro T38 h38 lo38 W38 R38 V38
    refine o_dup W38 (pc' := 228) (hb hy at_227) rfl rfl ?_
    refine o_bipush W38 (v := 6) (pc' := 230) (hb hy at_228) (by decide) rfl ?_
    refine o_bipush W38 (v := 99) (pc' := 232) (hb hy at_230) (by decide) rfl ?_
    refine o_stC W38 V38 (i := 6) (x' := (99 : Int32)) (by decide) (by decide) (by decide) (Nat.lt_of_sub_eq_succ rfl) (by decide) (vs' := [(.int 100), (.int 105), (.int 115), (.int 116), (.int 97), (.int 110), (.int 99)]) rfl gz32 (Or.inr gb32) (fun _ _ => trivial) (pc' := 233) (hb hy at_232) rfl ?_
    intro T39 h39 lo39 W39 R39 V39
    refine o_astore W39 (L' := #[.val (.int p0), .val (.int p1), .val (.int p2), .val (.int p3), .val (.int (p0 &&& (3 : Int32))), .val (.int 0), .val (.int (p2 &&& (255 : Int32))), .val (.ref b1), .val (.ref b9), .val (.ref b22), .val (.ref b31), .val (.ref b32), .unset, .unset, .unset, .unset, .unset, .unset, .unset]) (pc' := 235) (hb hy at_233) rfl rfl rfl ?_
    refine o_bipush W39 (v := 8) (pc' := 237) (hb hy at_235) (by decide) rfl ?_
    refine o_newP W39 (aty := .char) (w0 hw) (fun _ _ => trivial) (by decide) (cap := 8) (by decide) (by decide) (pc' := 239) (hb hy at_237) rfl (cells' := 6) (slots' := 45) rfl rfl (by decide) (by decide) (vs := [(.int 0), (.int 0), (.int 0), (.int 0), (.int 0), (.int 0), (.int 0), (.int 0)]) (dv := (.int 0)) rfl rfl ?_
    intro b40 T40 h40 k40 W40 E40 ge40 gz40 gb40 V40
    refine o_dup W40 (pc' := 240) (hb hy at_239) rfl rfl ?_
    refine o_iconst W40 (v := 0) (pc' := 241) (hb hy at_240) rfl rfl ?_
    refine o_bipush W40 (v := 117) (pc' := 243) (hb hy at_241) (by decide) rfl ?_
    refine o_stC W40 V40 (i := 0) (x' := (117 : Int32)) (by decide) (by decide) (by decide) (Nat.lt_of_sub_eq_succ rfl) (by decide) (vs' := [(.int 117), (.int 0), (.int 0), (.int 0), (.int 0), (.int 0), (.int 0), (.int 0)]) rfl gz40 (Or.inr gb40) (fun _ _ => trivial) (pc' := 244) (hb hy at_243) rfl ?_
    intro T41 h41 lo41 W41 R41 V41
    refine o_dup W41 (pc' := 245) (hb hy at_244) rfl rfl ?_
    refine o_iconst W41 (v := 1) (pc' := 246) (hb hy at_245) rfl rfl ?_
    refine o_bipush W41 (v := 110) (pc' := 248) (hb hy at_246) (by decide) rfl ?_
    refine o_stC W41 V41 (i := 1) (x' := (110 : Int32)) (by decide) (by decide) (by decide) (Nat.lt_of_sub_eq_succ rfl) (by decide) (vs' := [(.int 117), (.int 110), (.int 0), (.int 0), (.int 0), (.int 0), (.int 0), (.int 0)]) rfl gz40 (Or.inr gb40) (fun _ _ => trivial) (pc' := 249) (hb hy at_248) rfl ?_
    intro T42 h42 lo42 W42 R42 V42
    refine o_dup W42 (pc' := 250) (hb hy at_249) rfl rfl ?_
    refine o_iconst W42 (v := 2) (pc' := 251) (hb hy at_250) rfl rfl ?_
    refine o_bipush W42 (v := 105) (pc' := 253) (hb hy at_251) (by decide) rfl ?_
    refine o_stC W42 V42 (i := 2) (x' := (105 : Int32)) (by decide) (by decide) (by decide) (Nat.lt_of_sub_eq_succ rfl) (by decide) (vs' := [(.int 117), (.int 110), (.int 105), (.int 0), (.int 0), (.int 0), (.int 0), (.int 0)]) rfl gz40 (Or.inr gb40) (fun _ _ => trivial) (pc' := 254) (hb hy at_253) rfl ?_
    intro T43 h43 lo43 W43 R43 V43
    refine o_dup W43 (pc' := 255) (hb hy at_254) rfl rfl ?_
    refine o_iconst W43 (v := 3) (pc' := 256) (hb hy at_255) rfl rfl ?_
    refine o_bipush W43 (v := 102) (pc' := 258) (hb hy at_256) (by decide) rfl ?_
    refine o_stC W43 V43 (i := 3) (x' := (102 : Int32)) (by decide) (by decide) (by decide) (Nat.lt_of_sub_eq_succ rfl) (by decide) (vs' := [(.int 117), (.int 110), (.int 105), (.int 102), (.int 0), (.int 0), (.int 0), (.int 0)]) rfl gz40 (Or.inr gb40) (fun _ _ => trivial) (pc' := 259) (hb hy at_258) rfl ?_
    intro T44 h44 lo44 W44 R44 V44
    refine o_dup W44 (pc' := 260) (hb hy at_259) rfl rfl ?_
    refine o_iconst W44 (v := 4) (pc' := 261) (hb hy at_260) rfl rfl ?_
    refine o_bipush W44 (v := 111) (pc' := 263) (hb hy at_261) (by decide) rfl ?_
    refine o_stC W44 V44 (i := 4) (x' := (111 : Int32)) (by decide) (by decide) (by decide) (Nat.lt_of_sub_eq_succ rfl) (by decide) (vs' := [(.int 117), (.int 110), (.int 105), (.int 102), (.int 111), (.int 0), (.int 0), (.int 0)]) rfl gz40 (Or.inr gb40) (fun _ _ => trivial) (pc' := 264) (hb hy at_263) rfl ?_
    intro T45 h45 lo45 W45 R45 V45
    refine o_dup W45 (pc' := 265) (hb hy at_264) rfl rfl ?_
    refine o_iconst W45 (v := 5) (pc' := 266) (hb hy at_265) rfl rfl ?_
    refine o_bipush W45 (v := 114) (pc' := 268) (hb hy at_266) (by decide) rfl ?_
    refine o_stC W45 V45 (i := 5) (x' := (114 : Int32)) (by decide) (by decide) (by decide) (Nat.lt_of_sub_eq_succ rfl) (by decide) (vs' := [(.int 117), (.int 110), (.int 105), (.int 102), (.int 111), (.int 114), (.int 0), (.int 0)]) rfl gz40 (Or.inr gb40) (fun _ _ => trivial) (pc' := 269) (hb hy at_268) rfl ?_
    intro T46 h46 lo46 W46 R46 V46
    refine o_dup W46 (pc' := 270) (hb hy at_269) rfl rfl ?_
    refine o_bipush W46 (v := 6) (pc' := 272) (hb hy at_270) (by decide) rfl ?_
    refine o_bipush W46 (v := 109) (pc' := 274) (hb hy at_272) (by decide) rfl ?_
    refine o_stC W46 V46 (i := 6) (x' := (109 : Int32)) (by decide) (by decide) (by decide) (Nat.lt_of_sub_eq_succ rfl) (by decide) (vs' := [(.int 117), (.int 110), (.int 105), (.int 102), (.int 111), (.int 114), (.int 109), (.int 0)]) rfl gz40 (Or.inr gb40) (fun _ _ => trivial) (pc' := 275) (hb hy at_274) rfl ?_
    intro T47 h47 lo47 W47 R47 V47
    refine o_dup W47 (pc' := 276) (hb hy at_275) rfl rfl ?_
    refine o_bipush W47 (v := 7) (pc' := 278) (hb hy at_276) (by decide) rfl ?_
    refine o_bipush W47 (v := 32) (pc' := 280) (hb hy at_278) (by decide) rfl ?_
    refine o_stC W47 V47 (i := 7) (x' := (32 : Int32)) (by decide) (by decide) (by decide) (Nat.lt_of_sub_eq_succ rfl) (by decide) (vs' := [(.int 117), (.int 110), (.int 105), (.int 102), (.int 111), (.int 114), (.int 109), (.int 32)]) rfl gz40 (Or.inr gb40) (fun _ _ => trivial) (pc' := 281) (hb hy at_280) rfl ?_
    intro T48 h48 lo48 W48 R48 V48
    refine o_astore W48 (L' := #[.val (.int p0), .val (.int p1), .val (.int p2), .val (.int p3), .val (.int (p0 &&& (3 : Int32))), .val (.int 0), .val (.int (p2 &&& (255 : Int32))), .val (.ref b1), .val (.ref b9), .val (.ref b22), .val (.ref b31), .val (.ref b32), .val (.ref b40), .unset, .unset, .unset, .unset, .unset, .unset]) (pc' := 283) (hb hy at_281) rfl rfl rfl ?_
    rcases own_and3 p0 with ek49 | ek49 | ek49 | ek49
    · rw [ek49]
      refine o_iload W48 (pc' := 285) (hb hy at_283) rfl rfl ?_
      refine o_iconst W48 (v := 3) (pc' := 286) (hb hy at_285) rfl rfl ?_
      refine o_icmpN W48 (pc' := 289) (hb hy at_286) (XT.ii_ge_f (by decide)) rfl ?_
      refine o_iload W48 (pc' := 291) (hb hy at_289) rfl rfl ?_
      refine o_ifN W48 (pc' := 294) (hb hy at_291) (XT.i0_ne_f (by decide)) rfl ?_
      refine o_aload W48 (pc' := 296) (hb hy at_294) rfl rfl rfl ?_
      refine o_astore W48 (L' := #[.val (.int p0), .val (.int p1), .val (.int p2), .val (.int p3), .val (.int 0), .val (.int 0), .val (.int (p2 &&& (255 : Int32))), .val (.ref b1), .val (.ref b9), .val (.ref b22), .val (.ref b31), .val (.ref b32), .val (.ref b40), .unset, .unset, .val (.ref b1), .unset, .unset, .unset]) (pc' := 298) (hb hy at_296) rfl rfl rfl ?_
      refine o_getS W48 (w1 hw) Via.refl (SgO1_UNIFORM.ext W48.ox) (pc' := 301) (hb hy at_298) rfl ?_
      intro T50 W50
      refine o_astore W50 (L' := #[.val (.int p0), .val (.int p1), .val (.int p2), .val (.int p3), .val (.int 0), .val (.int 0), .val (.int (p2 &&& (255 : Int32))), .val (.ref b1), .val (.ref b9), .val (.ref b22), .val (.ref b31), .val (.ref b32), .val (.ref b40), .unset, .unset, .val (.ref b1), .val (.ref gO1), .unset, .unset]) (pc' := 303) (hb hy at_301) rfl rfl rfl ?_
      refine o_goto W50 (pc' := 333) (hb hy at_303) (by decide) rfl ?_
      refine o_iloadN W50 (pc' := 334) (hb hy at_333) rfl rfl ?_
      refine o_ldcI W50 (w4 hw) (pc' := 336) (hb hy at_334) rfl ?_
      refine o_iand W50 (v := (p1 &&& (2147483647 : Int32))) (pc' := 337) (hb hy at_336) rfl rfl ?_
      refine o_aload W50 (pc' := 339) (hb hy at_337) rfl rfl rfl ?_
      have c51 := (((((((((((((V8.ext E9).other R10 (own_ne V8.lt ge9)).other R11 (own_ne V8.lt ge9)).other R12 (own_ne V8.lt ge9)).other R13 (own_ne V8.lt ge9)).other R14 (own_ne V8.lt ge9)).other R15 (own_ne V8.lt ge9)).other R16 (own_ne V8.lt ge9)).other R17 (own_ne V8.lt ge9)).other R18 (own_ne V8.lt ge9)).other R19 (own_ne V8.lt ge9)).other R20 (own_ne V8.lt ge9)).other R21 (own_ne V8.lt ge9))
      have c52 := ((((((((((c51.ext E22).other R23 (own_ne c51.lt ge22)).other R24 (own_ne c51.lt ge22)).other R25 (own_ne c51.lt ge22)).other R26 (own_ne c51.lt ge22)).other R27 (own_ne c51.lt ge22)).other R28 (own_ne c51.lt ge22)).other R29 (own_ne c51.lt ge22)).other R30 (own_ne c51.lt ge22)).ext E31)
      have c53 := ((((((((c52.ext E32).other R33 (own_ne c52.lt ge32)).other R34 (own_ne c52.lt ge32)).other R35 (own_ne c52.lt ge32)).other R36 (own_ne c52.lt ge32)).other R37 (own_ne c52.lt ge32)).other R38 (own_ne c52.lt ge32)).other R39 (own_ne c52.lt ge32))
      have c54 := ((((((((((((((((((((((((((((((((((((((((V8.ext E9).other R10 (own_ne V8.lt ge9)).other R11 (own_ne V8.lt ge9)).other R12 (own_ne V8.lt ge9)).other R13 (own_ne V8.lt ge9)).other R14 (own_ne V8.lt ge9)).other R15 (own_ne V8.lt ge9)).other R16 (own_ne V8.lt ge9)).other R17 (own_ne V8.lt ge9)).other R18 (own_ne V8.lt ge9)).other R19 (own_ne V8.lt ge9)).other R20 (own_ne V8.lt ge9)).other R21 (own_ne V8.lt ge9)).ext E22).other R23 (own_ne c51.lt ge22)).other R24 (own_ne c51.lt ge22)).other R25 (own_ne c51.lt ge22)).other R26 (own_ne c51.lt ge22)).other R27 (own_ne c51.lt ge22)).other R28 (own_ne c51.lt ge22)).other R29 (own_ne c51.lt ge22)).other R30 (own_ne c51.lt ge22)).ext E31).ext E32).other R33 (own_ne c52.lt ge32)).other R34 (own_ne c52.lt ge32)).other R35 (own_ne c52.lt ge32)).other R36 (own_ne c52.lt ge32)).other R37 (own_ne c52.lt ge32)).other R38 (own_ne c52.lt ge32)).other R39 (own_ne c52.lt ge32)).ext E40).other R41 (own_ne c53.lt ge40)).other R42 (own_ne c53.lt ge40)).other R43 (own_ne c53.lt ge40)).other R44 (own_ne c53.lt ge40)).other R45 (own_ne c53.lt ge40)).other R46 (own_ne c53.lt ge40)).other R47 (own_ne c53.lt ge40)).other R48 (own_ne c53.lt ge40))
      refine o_len W50 c54 (pc' := 340) (hb hy at_339) rfl ?_
      rcases own_rem7 p1 with ek55 | ek55 | ek55 | ek55 | ek55 | ek55 | ek55
      · refine o_irem W50 (v := 0) (pc' := 341) (hb hy at_340) (by decide) ek55 rfl ?_
        refine o_istore W50 (L' := #[.val (.int p0), .val (.int p1), .val (.int p2), .val (.int p3), .val (.int 0), .val (.int 0), .val (.int (p2 &&& (255 : Int32))), .val (.ref b1), .val (.ref b9), .val (.ref b22), .val (.ref b31), .val (.ref b32), .val (.ref b40), .unset, .unset, .val (.ref b1), .val (.ref gO1), .val (.int 0), .unset]) (pc' := 343) (hb hy at_341) rfl rfl ?_
        refine o_aload W50 (pc' := 345) (hb hy at_343) rfl rfl rfl ?_
        refine o_iload W50 (pc' := 347) (hb hy at_345) rfl rfl ?_
        refine o_caload W50 c54 (x := (117 : Int32)) (i := 0) (by decide) (by decide) (by decide) rfl (pc' := 348) (hb hy at_347) rfl ?_
        refine o_istore W50 (L' := #[.val (.int p0), .val (.int p1), .val (.int p2), .val (.int p3), .val (.int 0), .val (.int 0), .val (.int (p2 &&& (255 : Int32))), .val (.ref b1), .val (.ref b9), .val (.ref b22), .val (.ref b31), .val (.ref b32), .val (.ref b40), .unset, .unset, .val (.ref b1), .val (.ref gO1), .val (.int 0), .val (.int 117)]) (pc' := 350) (hb hy at_348) rfl rfl ?_
        refine o_iload W50 (pc' := 352) (hb hy at_350) rfl rfl ?_
        refine o_ifY W50 (pc' := 362) (hb hy at_352) (XT.i0_eq_t (by decide)) (by decide) rfl ?_
        refine o_new W50 (w5 hw) (w6 hw) (w7 hw) (fun _ _ => trivial) (pc' := 365) (hb hy at_362) rfl (cells' := 7) (slots' := 49) rfl rfl (by decide) (by decide) ?_
        intro b56 T56 h56 W56 E56 ge56 gz56 gb56 A56 D56
        have Fb56_coder : Fld Z h56 b56 "java/lang/String" "coder" "B" (.int 0) := D56 (Or.inr (w31 hw)) (ty := .byte) (by decide)
        have Fb56_value : Fld Z h56 b56 "java/lang/String" "value" "[B" .null := D56 (Or.inr (w33 hw)) (ty := (.array .byte)) (by decide)
        refine o_dup W56 (pc' := 366) (hb hy at_365) rfl rfl ?_
        refine o_aload W56 (pc' := 368) (hb hy at_366) rfl rfl rfl ?_
        have c57 := (c54.ext E56)
        have ok58 : own_ok [(117 : Int32), (110 : Int32), (105 : Int32), (102 : Int32), (111 : Int32), (114 : Int32), (109 : Int32)] := ⟨by simp only [List.mem_cons, List.not_mem_nil, or_false, forall_eq_or_imp, forall_eq, false_imp_iff, implies_true]; exact ⟨(by unfold own_b; decide), (by unfold own_b; decide), (by unfold own_b; decide), (by unfold own_b; decide), (by unfold own_b; decide), (by unfold own_b; decide), (by unfold own_b; decide)⟩, Nat.le_of_ble_eq_true rfl⟩
        refine o_special W56 (y := (⟨"java/lang/String", "<init>", "([C)V"⟩ : MethodName)) rfl (w8 hw) (w9 hw) (w10 hw) (by decide) (a := b56) (argsL := [(.ref b1)]) (StrChars.Road.backV (W := 1) W56.2.2.2.1 (own_hV hw) (kI := 4) (w6 hw) (cs := [(117 : Int32), (110 : Int32), (105 : Int32), (102 : Int32), (111 : Int32), (114 : Int32), (109 : Int32)]) (bs := [((117 : Int32)).toInt8.toInt32, ((110 : Int32)).toInt8.toInt32, ((105 : Int32)).toInt8.toInt32, ((102 : Int32)).toInt8.toInt32, ((111 : Int32)).toInt8.toInt32, ((114 : Int32)).toInt8.toInt32, ((109 : Int32)).toInt8.toInt32]) (n := 7) (n0 := Z.heap.size) gz56 W56.zs A56 Fb56_value Fb56_coder c57 (SgCS.ext W56.ox) NgCS rfl rfl (by decide) (by decide) ok58.1 rfl (by decide) (by decide)) (by rw [hml]; rfl) (lenOf pd0 rfl) (S := [(.ref b56)]) rfl (by exact Nat.le_of_eq rfl) (pc' := 371) (hb hy at_368) rfl (cells' := 8) (slots' := 56) rfl rfl (by decide) (by decide) (wy := [b56]) (fun _ _ _ q => ⟨q.2.1, q.2.2.1⟩) (allS ⟨gz56, (Or.inr gb56)⟩ all0) (fun _ _ => trivial) ?_
        intro v59 T59 h59 lo59 W59 K59 q59
        obtain ⟨rfl, -, -, X59, Fc59, t59, kb59, gz59, ge59, -, Fv59, A59⟩ := q59
        have B59 : Arv Z h59 t59 kb59 .byte (7 : Int32) [(.int (StrChars.lo8 (117 : Int32))), (.int (StrChars.lo8 (110 : Int32))), (.int (StrChars.lo8 (105 : Int32))), (.int (StrChars.lo8 (102 : Int32))), (.int (StrChars.lo8 (111 : Int32))), (.int (StrChars.lo8 (114 : Int32))), (.int (StrChars.lo8 (109 : Int32)))] (.int 0) := A59
        show Gl _ _ _ _ _ _ _ _ [(.ref b56)]
        refine o_astore W59 (L' := #[.val (.int p0), .val (.int p1), .val (.int p2), .val (.int p3), .val (.int 0), .val (.int 0), .val (.int (p2 &&& (255 : Int32))), .val (.ref b1), .val (.ref b9), .val (.ref b22), .val (.ref b31), .val (.ref b32), .val (.ref b40), .val (.ref b56), .unset, .val (.ref b1), .val (.ref gO1), .val (.int 0), .val (.int 117)]) (pc' := 373) (hb hy at_371) rfl rfl rfl ?_
        refine o_iload W59 (pc' := 375) (hb hy at_373) rfl rfl ?_
        refine o_ifY W59 (pc' := 385) (hb hy at_375) (XT.i0_eq_t (by decide)) (by decide) rfl ?_
        refine o_aload W59 (pc' := 387) (hb hy at_385) rfl rfl rfl ?_
        refine o_astore W59 (L' := #[.val (.int p0), .val (.int p1), .val (.int p2), .val (.int p3), .val (.int 0), .val (.int 0), .val (.int (p2 &&& (255 : Int32))), .val (.ref b1), .val (.ref b9), .val (.ref b22), .val (.ref b31), .val (.ref b32), .val (.ref b40), .val (.ref b56), .val (.ref gO1), .val (.ref b1), .val (.ref gO1), .val (.int 0), .val (.int 117)]) (pc' := 389) (hb hy at_387) rfl rfl rfl ?_
        refine o_goto W59 (pc' := 395) (hb hy at_389) (by decide) rfl ?_
        refine o_goto W59 (pc' := 503) (hb hy at_395) (by decide) rfl ?_
        refine o_aload W59 (pc' := 505) (hb hy at_503) rfl rfl rfl ?_
        refine o_static W59 (y := (⟨"com/example/sessn/sessn/session/Weights", "labelled", "(Ljava/lang/String;)Lcom/example/sessn/sessn/session/Weights;"⟩ : MethodName)) (w34 hw) (w35 hw) (w2 hw) (w36 hw) (by decide) (argsL := [(.ref b56)]) (CtrN.back (Wd := 0) W59 (rm2 l Z a0 hw gCS gO1 gO2 gO4 gO6 gO8 gO9 gO10 gO11 gO12 gO13 k_gO2 k_gO9 k_gO11 k_gO13 b56 t59 kb59 [(117 : Int32), (110 : Int32), (105 : Int32), (102 : Int32), (111 : Int32), (114 : Int32), (109 : Int32)] h59 W59.old SgO2__VALUES VgO2 XgO2 FitgO2 FgO1_label SgCS NgCS XgO8 FgO8_value FgO8_coder VgO9 X59 Fv59 Fc59 B59 ok58 (own_eqne _) FgO4_label XgO10 FgO10_value FgO10_coder VgO11 (own_eqN (by simp)) FgO6_label XgO12 FgO12_value FgO12_coder VgO13 (own_eqN (by simp))) (w36 hw) (w2 hw) (by decide) (by decide)) (by rw [hml]; rfl) (lenOf pd3 rfl) (S := []) rfl (by exact Nat.le_of_eq rfl) (pc' := 508) (hb hy at_505) rfl (cells' := 9) (slots' := 59) rfl rfl (by decide) (by decide) (wy := []) (fun _ _ _ q => ⟨q.1, q.2.1⟩) all0 (fun _ _ => trivial) ?_
        intro v60 T60 h60 lo60 W60 K60 q60
        obtain rfl := q60.2.2
        show Gl _ _ _ _ _ _ _ _ [(.ref gO1)]
        refine o_aload W60 (pc' := 510) (hb hy at_508) rfl rfl rfl ?_
        refine o_acmpN W60 (pc' := 513) (hb hy at_510) rfl rfl (XT.aa_ne_f rfl) rfl ?_
        refine o_iconst W60 (v := 1) (pc' := 514) (hb hy at_513) rfl rfl ?_
        refine o_goto W60 (pc' := 518) (hb hy at_514) (by decide) rfl ?_
        exact o_retN W60 hlk (t := .boolean) hret (by simp) (z' := (1 : Int32)) (by decide) (hb hy at_518) (by decide) (by decide) rfl
      · refine o_irem W50 (v := 1) (pc' := 341) (hb hy at_340) (by decide) ek55 rfl ?_
        refine o_istore W50 (L' := #[.val (.int p0), .val (.int p1), .val (.int p2), .val (.int p3), .val (.int 0), .val (.int 0), .val (.int (p2 &&& (255 : Int32))), .val (.ref b1), .val (.ref b9), .val (.ref b22), .val (.ref b31), .val (.ref b32), .val (.ref b40), .unset, .unset, .val (.ref b1), .val (.ref gO1), .val (.int 1), .unset]) (pc' := 343) (hb hy at_341) rfl rfl ?_
        refine o_aload W50 (pc' := 345) (hb hy at_343) rfl rfl rfl ?_
        refine o_iload W50 (pc' := 347) (hb hy at_345) rfl rfl ?_
        refine o_caload W50 c54 (x := (110 : Int32)) (i := 1) (by decide) (by decide) (by decide) rfl (pc' := 348) (hb hy at_347) rfl ?_
        refine o_istore W50 (L' := #[.val (.int p0), .val (.int p1), .val (.int p2), .val (.int p3), .val (.int 0), .val (.int 0), .val (.int (p2 &&& (255 : Int32))), .val (.ref b1), .val (.ref b9), .val (.ref b22), .val (.ref b31), .val (.ref b32), .val (.ref b40), .unset, .unset, .val (.ref b1), .val (.ref gO1), .val (.int 1), .val (.int 110)]) (pc' := 350) (hb hy at_348) rfl rfl ?_
        refine o_iload W50 (pc' := 352) (hb hy at_350) rfl rfl ?_
        refine o_ifY W50 (pc' := 362) (hb hy at_352) (XT.i0_eq_t (by decide)) (by decide) rfl ?_
        refine o_new W50 (w5 hw) (w6 hw) (w7 hw) (fun _ _ => trivial) (pc' := 365) (hb hy at_362) rfl (cells' := 7) (slots' := 49) rfl rfl (by decide) (by decide) ?_
        intro b61 T61 h61 W61 E61 ge61 gz61 gb61 A61 D61
        have Fb61_coder : Fld Z h61 b61 "java/lang/String" "coder" "B" (.int 0) := D61 (Or.inr (w31 hw)) (ty := .byte) (by decide)
        have Fb61_value : Fld Z h61 b61 "java/lang/String" "value" "[B" .null := D61 (Or.inr (w33 hw)) (ty := (.array .byte)) (by decide)
        refine o_dup W61 (pc' := 366) (hb hy at_365) rfl rfl ?_
        refine o_aload W61 (pc' := 368) (hb hy at_366) rfl rfl rfl ?_
        have c62 := (c54.ext E61)
        have ok63 : own_ok [(117 : Int32), (110 : Int32), (105 : Int32), (102 : Int32), (111 : Int32), (114 : Int32), (109 : Int32)] := ⟨by simp only [List.mem_cons, List.not_mem_nil, or_false, forall_eq_or_imp, forall_eq, false_imp_iff, implies_true]; exact ⟨(by unfold own_b; decide), (by unfold own_b; decide), (by unfold own_b; decide), (by unfold own_b; decide), (by unfold own_b; decide), (by unfold own_b; decide), (by unfold own_b; decide)⟩, Nat.le_of_ble_eq_true rfl⟩
        refine o_special W61 (y := (⟨"java/lang/String", "<init>", "([C)V"⟩ : MethodName)) rfl (w8 hw) (w9 hw) (w10 hw) (by decide) (a := b61) (argsL := [(.ref b1)]) (StrChars.Road.backV (W := 1) W61.2.2.2.1 (own_hV hw) (kI := 4) (w6 hw) (cs := [(117 : Int32), (110 : Int32), (105 : Int32), (102 : Int32), (111 : Int32), (114 : Int32), (109 : Int32)]) (bs := [((117 : Int32)).toInt8.toInt32, ((110 : Int32)).toInt8.toInt32, ((105 : Int32)).toInt8.toInt32, ((102 : Int32)).toInt8.toInt32, ((111 : Int32)).toInt8.toInt32, ((114 : Int32)).toInt8.toInt32, ((109 : Int32)).toInt8.toInt32]) (n := 7) (n0 := Z.heap.size) gz61 W61.zs A61 Fb61_value Fb61_coder c62 (SgCS.ext W61.ox) NgCS rfl rfl (by decide) (by decide) ok63.1 rfl (by decide) (by decide)) (by rw [hml]; rfl) (lenOf pd0 rfl) (S := [(.ref b61)]) rfl (by exact Nat.le_of_eq rfl) (pc' := 371) (hb hy at_368) rfl (cells' := 8) (slots' := 56) rfl rfl (by decide) (by decide) (wy := [b61]) (fun _ _ _ q => ⟨q.2.1, q.2.2.1⟩) (allS ⟨gz61, (Or.inr gb61)⟩ all0) (fun _ _ => trivial) ?_
        intro v64 T64 h64 lo64 W64 K64 q64
        obtain ⟨rfl, -, -, X64, Fc64, t64, kb64, gz64, ge64, -, Fv64, A64⟩ := q64
        have B64 : Arv Z h64 t64 kb64 .byte (7 : Int32) [(.int (StrChars.lo8 (117 : Int32))), (.int (StrChars.lo8 (110 : Int32))), (.int (StrChars.lo8 (105 : Int32))), (.int (StrChars.lo8 (102 : Int32))), (.int (StrChars.lo8 (111 : Int32))), (.int (StrChars.lo8 (114 : Int32))), (.int (StrChars.lo8 (109 : Int32)))] (.int 0) := A64
        show Gl _ _ _ _ _ _ _ _ [(.ref b61)]
        refine o_astore W64 (L' := #[.val (.int p0), .val (.int p1), .val (.int p2), .val (.int p3), .val (.int 0), .val (.int 0), .val (.int (p2 &&& (255 : Int32))), .val (.ref b1), .val (.ref b9), .val (.ref b22), .val (.ref b31), .val (.ref b32), .val (.ref b40), .val (.ref b61), .unset, .val (.ref b1), .val (.ref gO1), .val (.int 1), .val (.int 110)]) (pc' := 373) (hb hy at_371) rfl rfl rfl ?_
        refine o_iload W64 (pc' := 375) (hb hy at_373) rfl rfl ?_
        refine o_ifY W64 (pc' := 385) (hb hy at_375) (XT.i0_eq_t (by decide)) (by decide) rfl ?_
        refine o_aload W64 (pc' := 387) (hb hy at_385) rfl rfl rfl ?_
        refine o_astore W64 (L' := #[.val (.int p0), .val (.int p1), .val (.int p2), .val (.int p3), .val (.int 0), .val (.int 0), .val (.int (p2 &&& (255 : Int32))), .val (.ref b1), .val (.ref b9), .val (.ref b22), .val (.ref b31), .val (.ref b32), .val (.ref b40), .val (.ref b61), .val (.ref gO1), .val (.ref b1), .val (.ref gO1), .val (.int 1), .val (.int 110)]) (pc' := 389) (hb hy at_387) rfl rfl rfl ?_
        refine o_goto W64 (pc' := 395) (hb hy at_389) (by decide) rfl ?_
        refine o_goto W64 (pc' := 503) (hb hy at_395) (by decide) rfl ?_
        refine o_aload W64 (pc' := 505) (hb hy at_503) rfl rfl rfl ?_
        refine o_static W64 (y := (⟨"com/example/sessn/sessn/session/Weights", "labelled", "(Ljava/lang/String;)Lcom/example/sessn/sessn/session/Weights;"⟩ : MethodName)) (w34 hw) (w35 hw) (w2 hw) (w36 hw) (by decide) (argsL := [(.ref b61)]) (CtrN.back (Wd := 0) W64 (rm2 l Z a0 hw gCS gO1 gO2 gO4 gO6 gO8 gO9 gO10 gO11 gO12 gO13 k_gO2 k_gO9 k_gO11 k_gO13 b61 t64 kb64 [(117 : Int32), (110 : Int32), (105 : Int32), (102 : Int32), (111 : Int32), (114 : Int32), (109 : Int32)] h64 W64.old SgO2__VALUES VgO2 XgO2 FitgO2 FgO1_label SgCS NgCS XgO8 FgO8_value FgO8_coder VgO9 X64 Fv64 Fc64 B64 ok63 (own_eqne _) FgO4_label XgO10 FgO10_value FgO10_coder VgO11 (own_eqN (by simp)) FgO6_label XgO12 FgO12_value FgO12_coder VgO13 (own_eqN (by simp))) (w36 hw) (w2 hw) (by decide) (by decide)) (by rw [hml]; rfl) (lenOf pd3 rfl) (S := []) rfl (by exact Nat.le_of_eq rfl) (pc' := 508) (hb hy at_505) rfl (cells' := 9) (slots' := 59) rfl rfl (by decide) (by decide) (wy := []) (fun _ _ _ q => ⟨q.1, q.2.1⟩) all0 (fun _ _ => trivial) ?_
        intro v65 T65 h65 lo65 W65 K65 q65
        obtain rfl := q65.2.2
        show Gl _ _ _ _ _ _ _ _ [(.ref gO1)]
        refine o_aload W65 (pc' := 510) (hb hy at_508) rfl rfl rfl ?_
        refine o_acmpN W65 (pc' := 513) (hb hy at_510) rfl rfl (XT.aa_ne_f rfl) rfl ?_
        refine o_iconst W65 (v := 1) (pc' := 514) (hb hy at_513) rfl rfl ?_
        refine o_goto W65 (pc' := 518) (hb hy at_514) (by decide) rfl ?_
        exact o_retN W65 hlk (t := .boolean) hret (by simp) (z' := (1 : Int32)) (by decide) (hb hy at_518) (by decide) (by decide) rfl
      · refine o_irem W50 (v := 2) (pc' := 341) (hb hy at_340) (by decide) ek55 rfl ?_
        refine o_istore W50 (L' := #[.val (.int p0), .val (.int p1), .val (.int p2), .val (.int p3), .val (.int 0), .val (.int 0), .val (.int (p2 &&& (255 : Int32))), .val (.ref b1), .val (.ref b9), .val (.ref b22), .val (.ref b31), .val (.ref b32), .val (.ref b40), .unset, .unset, .val (.ref b1), .val (.ref gO1), .val (.int 2), .unset]) (pc' := 343) (hb hy at_341) rfl rfl ?_
        refine o_aload W50 (pc' := 345) (hb hy at_343) rfl rfl rfl ?_
        refine o_iload W50 (pc' := 347) (hb hy at_345) rfl rfl ?_
        refine o_caload W50 c54 (x := (105 : Int32)) (i := 2) (by decide) (by decide) (by decide) rfl (pc' := 348) (hb hy at_347) rfl ?_
        refine o_istore W50 (L' := #[.val (.int p0), .val (.int p1), .val (.int p2), .val (.int p3), .val (.int 0), .val (.int 0), .val (.int (p2 &&& (255 : Int32))), .val (.ref b1), .val (.ref b9), .val (.ref b22), .val (.ref b31), .val (.ref b32), .val (.ref b40), .unset, .unset, .val (.ref b1), .val (.ref gO1), .val (.int 2), .val (.int 105)]) (pc' := 350) (hb hy at_348) rfl rfl ?_
        refine o_iload W50 (pc' := 352) (hb hy at_350) rfl rfl ?_
        refine o_ifY W50 (pc' := 362) (hb hy at_352) (XT.i0_eq_t (by decide)) (by decide) rfl ?_
        refine o_new W50 (w5 hw) (w6 hw) (w7 hw) (fun _ _ => trivial) (pc' := 365) (hb hy at_362) rfl (cells' := 7) (slots' := 49) rfl rfl (by decide) (by decide) ?_
        intro b66 T66 h66 W66 E66 ge66 gz66 gb66 A66 D66
        have Fb66_coder : Fld Z h66 b66 "java/lang/String" "coder" "B" (.int 0) := D66 (Or.inr (w31 hw)) (ty := .byte) (by decide)
        have Fb66_value : Fld Z h66 b66 "java/lang/String" "value" "[B" .null := D66 (Or.inr (w33 hw)) (ty := (.array .byte)) (by decide)
        refine o_dup W66 (pc' := 366) (hb hy at_365) rfl rfl ?_
        refine o_aload W66 (pc' := 368) (hb hy at_366) rfl rfl rfl ?_
        have c67 := (c54.ext E66)
        have ok68 : own_ok [(117 : Int32), (110 : Int32), (105 : Int32), (102 : Int32), (111 : Int32), (114 : Int32), (109 : Int32)] := ⟨by simp only [List.mem_cons, List.not_mem_nil, or_false, forall_eq_or_imp, forall_eq, false_imp_iff, implies_true]; exact ⟨(by unfold own_b; decide), (by unfold own_b; decide), (by unfold own_b; decide), (by unfold own_b; decide), (by unfold own_b; decide), (by unfold own_b; decide), (by unfold own_b; decide)⟩, Nat.le_of_ble_eq_true rfl⟩
        refine o_special W66 (y := (⟨"java/lang/String", "<init>", "([C)V"⟩ : MethodName)) rfl (w8 hw) (w9 hw) (w10 hw) (by decide) (a := b66) (argsL := [(.ref b1)]) (StrChars.Road.backV (W := 1) W66.2.2.2.1 (own_hV hw) (kI := 4) (w6 hw) (cs := [(117 : Int32), (110 : Int32), (105 : Int32), (102 : Int32), (111 : Int32), (114 : Int32), (109 : Int32)]) (bs := [((117 : Int32)).toInt8.toInt32, ((110 : Int32)).toInt8.toInt32, ((105 : Int32)).toInt8.toInt32, ((102 : Int32)).toInt8.toInt32, ((111 : Int32)).toInt8.toInt32, ((114 : Int32)).toInt8.toInt32, ((109 : Int32)).toInt8.toInt32]) (n := 7) (n0 := Z.heap.size) gz66 W66.zs A66 Fb66_value Fb66_coder c67 (SgCS.ext W66.ox) NgCS rfl rfl (by decide) (by decide) ok68.1 rfl (by decide) (by decide)) (by rw [hml]; rfl) (lenOf pd0 rfl) (S := [(.ref b66)]) rfl (by exact Nat.le_of_eq rfl) (pc' := 371) (hb hy at_368) rfl (cells' := 8) (slots' := 56) rfl rfl (by decide) (by decide) (wy := [b66]) (fun _ _ _ q => ⟨q.2.1, q.2.2.1⟩) (allS ⟨gz66, (Or.inr gb66)⟩ all0) (fun _ _ => trivial) ?_
        intro v69 T69 h69 lo69 W69 K69 q69
        obtain ⟨rfl, -, -, X69, Fc69, t69, kb69, gz69, ge69, -, Fv69, A69⟩ := q69
        have B69 : Arv Z h69 t69 kb69 .byte (7 : Int32) [(.int (StrChars.lo8 (117 : Int32))), (.int (StrChars.lo8 (110 : Int32))), (.int (StrChars.lo8 (105 : Int32))), (.int (StrChars.lo8 (102 : Int32))), (.int (StrChars.lo8 (111 : Int32))), (.int (StrChars.lo8 (114 : Int32))), (.int (StrChars.lo8 (109 : Int32)))] (.int 0) := A69
        show Gl _ _ _ _ _ _ _ _ [(.ref b66)]
        refine o_astore W69 (L' := #[.val (.int p0), .val (.int p1), .val (.int p2), .val (.int p3), .val (.int 0), .val (.int 0), .val (.int (p2 &&& (255 : Int32))), .val (.ref b1), .val (.ref b9), .val (.ref b22), .val (.ref b31), .val (.ref b32), .val (.ref b40), .val (.ref b66), .unset, .val (.ref b1), .val (.ref gO1), .val (.int 2), .val (.int 105)]) (pc' := 373) (hb hy at_371) rfl rfl rfl ?_
        refine o_iload W69 (pc' := 375) (hb hy at_373) rfl rfl ?_
        refine o_ifY W69 (pc' := 385) (hb hy at_375) (XT.i0_eq_t (by decide)) (by decide) rfl ?_
        refine o_aload W69 (pc' := 387) (hb hy at_385) rfl rfl rfl ?_
        refine o_astore W69 (L' := #[.val (.int p0), .val (.int p1), .val (.int p2), .val (.int p3), .val (.int 0), .val (.int 0), .val (.int (p2 &&& (255 : Int32))), .val (.ref b1), .val (.ref b9), .val (.ref b22), .val (.ref b31), .val (.ref b32), .val (.ref b40), .val (.ref b66), .val (.ref gO1), .val (.ref b1), .val (.ref gO1), .val (.int 2), .val (.int 105)]) (pc' := 389) (hb hy at_387) rfl rfl rfl ?_
        refine o_goto W69 (pc' := 395) (hb hy at_389) (by decide) rfl ?_
        refine o_goto W69 (pc' := 503) (hb hy at_395) (by decide) rfl ?_
        refine o_aload W69 (pc' := 505) (hb hy at_503) rfl rfl rfl ?_
        refine o_static W69 (y := (⟨"com/example/sessn/sessn/session/Weights", "labelled", "(Ljava/lang/String;)Lcom/example/sessn/sessn/session/Weights;"⟩ : MethodName)) (w34 hw) (w35 hw) (w2 hw) (w36 hw) (by decide) (argsL := [(.ref b66)]) (CtrN.back (Wd := 0) W69 (rm2 l Z a0 hw gCS gO1 gO2 gO4 gO6 gO8 gO9 gO10 gO11 gO12 gO13 k_gO2 k_gO9 k_gO11 k_gO13 b66 t69 kb69 [(117 : Int32), (110 : Int32), (105 : Int32), (102 : Int32), (111 : Int32), (114 : Int32), (109 : Int32)] h69 W69.old SgO2__VALUES VgO2 XgO2 FitgO2 FgO1_label SgCS NgCS XgO8 FgO8_value FgO8_coder VgO9 X69 Fv69 Fc69 B69 ok68 (own_eqne _) FgO4_label XgO10 FgO10_value FgO10_coder VgO11 (own_eqN (by simp)) FgO6_label XgO12 FgO12_value FgO12_coder VgO13 (own_eqN (by simp))) (w36 hw) (w2 hw) (by decide) (by decide)) (by rw [hml]; rfl) (lenOf pd3 rfl) (S := []) rfl (by exact Nat.le_of_eq rfl) (pc' := 508) (hb hy at_505) rfl (cells' := 9) (slots' := 59) rfl rfl (by decide) (by decide) (wy := []) (fun _ _ _ q => ⟨q.1, q.2.1⟩) all0 (fun _ _ => trivial) ?_
        intro v70 T70 h70 lo70 W70 K70 q70
        obtain rfl := q70.2.2
        show Gl _ _ _ _ _ _ _ _ [(.ref gO1)]
        refine o_aload W70 (pc' := 510) (hb hy at_508) rfl rfl rfl ?_
        refine o_acmpN W70 (pc' := 513) (hb hy at_510) rfl rfl (XT.aa_ne_f rfl) rfl ?_
        refine o_iconst W70 (v := 1) (pc' := 514) (hb hy at_513) rfl rfl ?_
        refine o_goto W70 (pc' := 518) (hb hy at_514) (by decide) rfl ?_
        exact o_retN W70 hlk (t := .boolean) hret (by simp) (z' := (1 : Int32)) (by decide) (hb hy at_518) (by decide) (by decide) rfl
      · refine o_irem W50 (v := 3) (pc' := 341) (hb hy at_340) (by decide) ek55 rfl ?_
        refine o_istore W50 (L' := #[.val (.int p0), .val (.int p1), .val (.int p2), .val (.int p3), .val (.int 0), .val (.int 0), .val (.int (p2 &&& (255 : Int32))), .val (.ref b1), .val (.ref b9), .val (.ref b22), .val (.ref b31), .val (.ref b32), .val (.ref b40), .unset, .unset, .val (.ref b1), .val (.ref gO1), .val (.int 3), .unset]) (pc' := 343) (hb hy at_341) rfl rfl ?_
        refine o_aload W50 (pc' := 345) (hb hy at_343) rfl rfl rfl ?_
        refine o_iload W50 (pc' := 347) (hb hy at_345) rfl rfl ?_
        refine o_caload W50 c54 (x := (102 : Int32)) (i := 3) (by decide) (by decide) (by decide) rfl (pc' := 348) (hb hy at_347) rfl ?_
        refine o_istore W50 (L' := #[.val (.int p0), .val (.int p1), .val (.int p2), .val (.int p3), .val (.int 0), .val (.int 0), .val (.int (p2 &&& (255 : Int32))), .val (.ref b1), .val (.ref b9), .val (.ref b22), .val (.ref b31), .val (.ref b32), .val (.ref b40), .unset, .unset, .val (.ref b1), .val (.ref gO1), .val (.int 3), .val (.int 102)]) (pc' := 350) (hb hy at_348) rfl rfl ?_
        refine o_iload W50 (pc' := 352) (hb hy at_350) rfl rfl ?_
        refine o_ifY W50 (pc' := 362) (hb hy at_352) (XT.i0_eq_t (by decide)) (by decide) rfl ?_
        refine o_new W50 (w5 hw) (w6 hw) (w7 hw) (fun _ _ => trivial) (pc' := 365) (hb hy at_362) rfl (cells' := 7) (slots' := 49) rfl rfl (by decide) (by decide) ?_
        intro b71 T71 h71 W71 E71 ge71 gz71 gb71 A71 D71
        have Fb71_coder : Fld Z h71 b71 "java/lang/String" "coder" "B" (.int 0) := D71 (Or.inr (w31 hw)) (ty := .byte) (by decide)
        have Fb71_value : Fld Z h71 b71 "java/lang/String" "value" "[B" .null := D71 (Or.inr (w33 hw)) (ty := (.array .byte)) (by decide)
        refine o_dup W71 (pc' := 366) (hb hy at_365) rfl rfl ?_
        refine o_aload W71 (pc' := 368) (hb hy at_366) rfl rfl rfl ?_
        have c72 := (c54.ext E71)
        have ok73 : own_ok [(117 : Int32), (110 : Int32), (105 : Int32), (102 : Int32), (111 : Int32), (114 : Int32), (109 : Int32)] := ⟨by simp only [List.mem_cons, List.not_mem_nil, or_false, forall_eq_or_imp, forall_eq, false_imp_iff, implies_true]; exact ⟨(by unfold own_b; decide), (by unfold own_b; decide), (by unfold own_b; decide), (by unfold own_b; decide), (by unfold own_b; decide), (by unfold own_b; decide), (by unfold own_b; decide)⟩, Nat.le_of_ble_eq_true rfl⟩
        refine o_special W71 (y := (⟨"java/lang/String", "<init>", "([C)V"⟩ : MethodName)) rfl (w8 hw) (w9 hw) (w10 hw) (by decide) (a := b71) (argsL := [(.ref b1)]) (StrChars.Road.backV (W := 1) W71.2.2.2.1 (own_hV hw) (kI := 4) (w6 hw) (cs := [(117 : Int32), (110 : Int32), (105 : Int32), (102 : Int32), (111 : Int32), (114 : Int32), (109 : Int32)]) (bs := [((117 : Int32)).toInt8.toInt32, ((110 : Int32)).toInt8.toInt32, ((105 : Int32)).toInt8.toInt32, ((102 : Int32)).toInt8.toInt32, ((111 : Int32)).toInt8.toInt32, ((114 : Int32)).toInt8.toInt32, ((109 : Int32)).toInt8.toInt32]) (n := 7) (n0 := Z.heap.size) gz71 W71.zs A71 Fb71_value Fb71_coder c72 (SgCS.ext W71.ox) NgCS rfl rfl (by decide) (by decide) ok73.1 rfl (by decide) (by decide)) (by rw [hml]; rfl) (lenOf pd0 rfl) (S := [(.ref b71)]) rfl (by exact Nat.le_of_eq rfl) (pc' := 371) (hb hy at_368) rfl (cells' := 8) (slots' := 56) rfl rfl (by decide) (by decide) (wy := [b71]) (fun _ _ _ q => ⟨q.2.1, q.2.2.1⟩) (allS ⟨gz71, (Or.inr gb71)⟩ all0) (fun _ _ => trivial) ?_
        intro v74 T74 h74 lo74 W74 K74 q74
        obtain ⟨rfl, -, -, X74, Fc74, t74, kb74, gz74, ge74, -, Fv74, A74⟩ := q74
        have B74 : Arv Z h74 t74 kb74 .byte (7 : Int32) [(.int (StrChars.lo8 (117 : Int32))), (.int (StrChars.lo8 (110 : Int32))), (.int (StrChars.lo8 (105 : Int32))), (.int (StrChars.lo8 (102 : Int32))), (.int (StrChars.lo8 (111 : Int32))), (.int (StrChars.lo8 (114 : Int32))), (.int (StrChars.lo8 (109 : Int32)))] (.int 0) := A74
        show Gl _ _ _ _ _ _ _ _ [(.ref b71)]
        refine o_astore W74 (L' := #[.val (.int p0), .val (.int p1), .val (.int p2), .val (.int p3), .val (.int 0), .val (.int 0), .val (.int (p2 &&& (255 : Int32))), .val (.ref b1), .val (.ref b9), .val (.ref b22), .val (.ref b31), .val (.ref b32), .val (.ref b40), .val (.ref b71), .unset, .val (.ref b1), .val (.ref gO1), .val (.int 3), .val (.int 102)]) (pc' := 373) (hb hy at_371) rfl rfl rfl ?_
        refine o_iload W74 (pc' := 375) (hb hy at_373) rfl rfl ?_
        refine o_ifY W74 (pc' := 385) (hb hy at_375) (XT.i0_eq_t (by decide)) (by decide) rfl ?_
        refine o_aload W74 (pc' := 387) (hb hy at_385) rfl rfl rfl ?_
        refine o_astore W74 (L' := #[.val (.int p0), .val (.int p1), .val (.int p2), .val (.int p3), .val (.int 0), .val (.int 0), .val (.int (p2 &&& (255 : Int32))), .val (.ref b1), .val (.ref b9), .val (.ref b22), .val (.ref b31), .val (.ref b32), .val (.ref b40), .val (.ref b71), .val (.ref gO1), .val (.ref b1), .val (.ref gO1), .val (.int 3), .val (.int 102)]) (pc' := 389) (hb hy at_387) rfl rfl rfl ?_
        refine o_goto W74 (pc' := 395) (hb hy at_389) (by decide) rfl ?_
        refine o_goto W74 (pc' := 503) (hb hy at_395) (by decide) rfl ?_
        refine o_aload W74 (pc' := 505) (hb hy at_503) rfl rfl rfl ?_
        refine o_static W74 (y := (⟨"com/example/sessn/sessn/session/Weights", "labelled", "(Ljava/lang/String;)Lcom/example/sessn/sessn/session/Weights;"⟩ : MethodName)) (w34 hw) (w35 hw) (w2 hw) (w36 hw) (by decide) (argsL := [(.ref b71)]) (CtrN.back (Wd := 0) W74 (rm2 l Z a0 hw gCS gO1 gO2 gO4 gO6 gO8 gO9 gO10 gO11 gO12 gO13 k_gO2 k_gO9 k_gO11 k_gO13 b71 t74 kb74 [(117 : Int32), (110 : Int32), (105 : Int32), (102 : Int32), (111 : Int32), (114 : Int32), (109 : Int32)] h74 W74.old SgO2__VALUES VgO2 XgO2 FitgO2 FgO1_label SgCS NgCS XgO8 FgO8_value FgO8_coder VgO9 X74 Fv74 Fc74 B74 ok73 (own_eqne _) FgO4_label XgO10 FgO10_value FgO10_coder VgO11 (own_eqN (by simp)) FgO6_label XgO12 FgO12_value FgO12_coder VgO13 (own_eqN (by simp))) (w36 hw) (w2 hw) (by decide) (by decide)) (by rw [hml]; rfl) (lenOf pd3 rfl) (S := []) rfl (by exact Nat.le_of_eq rfl) (pc' := 508) (hb hy at_505) rfl (cells' := 9) (slots' := 59) rfl rfl (by decide) (by decide) (wy := []) (fun _ _ _ q => ⟨q.1, q.2.1⟩) all0 (fun _ _ => trivial) ?_
        intro v75 T75 h75 lo75 W75 K75 q75
        obtain rfl := q75.2.2
        show Gl _ _ _ _ _ _ _ _ [(.ref gO1)]
        refine o_aload W75 (pc' := 510) (hb hy at_508) rfl rfl rfl ?_
        refine o_acmpN W75 (pc' := 513) (hb hy at_510) rfl rfl (XT.aa_ne_f rfl) rfl ?_
        refine o_iconst W75 (v := 1) (pc' := 514) (hb hy at_513) rfl rfl ?_
        refine o_goto W75 (pc' := 518) (hb hy at_514) (by decide) rfl ?_
        exact o_retN W75 hlk (t := .boolean) hret (by simp) (z' := (1 : Int32)) (by decide) (hb hy at_518) (by decide) (by decide) rfl
      · refine o_irem W50 (v := 4) (pc' := 341) (hb hy at_340) (by decide) ek55 rfl ?_
        refine o_istore W50 (L' := #[.val (.int p0), .val (.int p1), .val (.int p2), .val (.int p3), .val (.int 0), .val (.int 0), .val (.int (p2 &&& (255 : Int32))), .val (.ref b1), .val (.ref b9), .val (.ref b22), .val (.ref b31), .val (.ref b32), .val (.ref b40), .unset, .unset, .val (.ref b1), .val (.ref gO1), .val (.int 4), .unset]) (pc' := 343) (hb hy at_341) rfl rfl ?_
        refine o_aload W50 (pc' := 345) (hb hy at_343) rfl rfl rfl ?_
        refine o_iload W50 (pc' := 347) (hb hy at_345) rfl rfl ?_
        refine o_caload W50 c54 (x := (111 : Int32)) (i := 4) (by decide) (by decide) (by decide) rfl (pc' := 348) (hb hy at_347) rfl ?_
        refine o_istore W50 (L' := #[.val (.int p0), .val (.int p1), .val (.int p2), .val (.int p3), .val (.int 0), .val (.int 0), .val (.int (p2 &&& (255 : Int32))), .val (.ref b1), .val (.ref b9), .val (.ref b22), .val (.ref b31), .val (.ref b32), .val (.ref b40), .unset, .unset, .val (.ref b1), .val (.ref gO1), .val (.int 4), .val (.int 111)]) (pc' := 350) (hb hy at_348) rfl rfl ?_
        refine o_iload W50 (pc' := 352) (hb hy at_350) rfl rfl ?_
        refine o_ifY W50 (pc' := 362) (hb hy at_352) (XT.i0_eq_t (by decide)) (by decide) rfl ?_
        refine o_new W50 (w5 hw) (w6 hw) (w7 hw) (fun _ _ => trivial) (pc' := 365) (hb hy at_362) rfl (cells' := 7) (slots' := 49) rfl rfl (by decide) (by decide) ?_
        intro b76 T76 h76 W76 E76 ge76 gz76 gb76 A76 D76
        have Fb76_coder : Fld Z h76 b76 "java/lang/String" "coder" "B" (.int 0) := D76 (Or.inr (w31 hw)) (ty := .byte) (by decide)
        have Fb76_value : Fld Z h76 b76 "java/lang/String" "value" "[B" .null := D76 (Or.inr (w33 hw)) (ty := (.array .byte)) (by decide)
        refine o_dup W76 (pc' := 366) (hb hy at_365) rfl rfl ?_
        refine o_aload W76 (pc' := 368) (hb hy at_366) rfl rfl rfl ?_
        have c77 := (c54.ext E76)
        have ok78 : own_ok [(117 : Int32), (110 : Int32), (105 : Int32), (102 : Int32), (111 : Int32), (114 : Int32), (109 : Int32)] := ⟨by simp only [List.mem_cons, List.not_mem_nil, or_false, forall_eq_or_imp, forall_eq, false_imp_iff, implies_true]; exact ⟨(by unfold own_b; decide), (by unfold own_b; decide), (by unfold own_b; decide), (by unfold own_b; decide), (by unfold own_b; decide), (by unfold own_b; decide), (by unfold own_b; decide)⟩, Nat.le_of_ble_eq_true rfl⟩
        refine o_special W76 (y := (⟨"java/lang/String", "<init>", "([C)V"⟩ : MethodName)) rfl (w8 hw) (w9 hw) (w10 hw) (by decide) (a := b76) (argsL := [(.ref b1)]) (StrChars.Road.backV (W := 1) W76.2.2.2.1 (own_hV hw) (kI := 4) (w6 hw) (cs := [(117 : Int32), (110 : Int32), (105 : Int32), (102 : Int32), (111 : Int32), (114 : Int32), (109 : Int32)]) (bs := [((117 : Int32)).toInt8.toInt32, ((110 : Int32)).toInt8.toInt32, ((105 : Int32)).toInt8.toInt32, ((102 : Int32)).toInt8.toInt32, ((111 : Int32)).toInt8.toInt32, ((114 : Int32)).toInt8.toInt32, ((109 : Int32)).toInt8.toInt32]) (n := 7) (n0 := Z.heap.size) gz76 W76.zs A76 Fb76_value Fb76_coder c77 (SgCS.ext W76.ox) NgCS rfl rfl (by decide) (by decide) ok78.1 rfl (by decide) (by decide)) (by rw [hml]; rfl) (lenOf pd0 rfl) (S := [(.ref b76)]) rfl (by exact Nat.le_of_eq rfl) (pc' := 371) (hb hy at_368) rfl (cells' := 8) (slots' := 56) rfl rfl (by decide) (by decide) (wy := [b76]) (fun _ _ _ q => ⟨q.2.1, q.2.2.1⟩) (allS ⟨gz76, (Or.inr gb76)⟩ all0) (fun _ _ => trivial) ?_
        intro v79 T79 h79 lo79 W79 K79 q79
        obtain ⟨rfl, -, -, X79, Fc79, t79, kb79, gz79, ge79, -, Fv79, A79⟩ := q79
        have B79 : Arv Z h79 t79 kb79 .byte (7 : Int32) [(.int (StrChars.lo8 (117 : Int32))), (.int (StrChars.lo8 (110 : Int32))), (.int (StrChars.lo8 (105 : Int32))), (.int (StrChars.lo8 (102 : Int32))), (.int (StrChars.lo8 (111 : Int32))), (.int (StrChars.lo8 (114 : Int32))), (.int (StrChars.lo8 (109 : Int32)))] (.int 0) := A79
        show Gl _ _ _ _ _ _ _ _ [(.ref b76)]
        refine o_astore W79 (L' := #[.val (.int p0), .val (.int p1), .val (.int p2), .val (.int p3), .val (.int 0), .val (.int 0), .val (.int (p2 &&& (255 : Int32))), .val (.ref b1), .val (.ref b9), .val (.ref b22), .val (.ref b31), .val (.ref b32), .val (.ref b40), .val (.ref b76), .unset, .val (.ref b1), .val (.ref gO1), .val (.int 4), .val (.int 111)]) (pc' := 373) (hb hy at_371) rfl rfl rfl ?_
        refine o_iload W79 (pc' := 375) (hb hy at_373) rfl rfl ?_
        refine o_ifY W79 (pc' := 385) (hb hy at_375) (XT.i0_eq_t (by decide)) (by decide) rfl ?_
        refine o_aload W79 (pc' := 387) (hb hy at_385) rfl rfl rfl ?_
        refine o_astore W79 (L' := #[.val (.int p0), .val (.int p1), .val (.int p2), .val (.int p3), .val (.int 0), .val (.int 0), .val (.int (p2 &&& (255 : Int32))), .val (.ref b1), .val (.ref b9), .val (.ref b22), .val (.ref b31), .val (.ref b32), .val (.ref b40), .val (.ref b76), .val (.ref gO1), .val (.ref b1), .val (.ref gO1), .val (.int 4), .val (.int 111)]) (pc' := 389) (hb hy at_387) rfl rfl rfl ?_
        refine o_goto W79 (pc' := 395) (hb hy at_389) (by decide) rfl ?_
        refine o_goto W79 (pc' := 503) (hb hy at_395) (by decide) rfl ?_
        refine o_aload W79 (pc' := 505) (hb hy at_503) rfl rfl rfl ?_
        refine o_static W79 (y := (⟨"com/example/sessn/sessn/session/Weights", "labelled", "(Ljava/lang/String;)Lcom/example/sessn/sessn/session/Weights;"⟩ : MethodName)) (w34 hw) (w35 hw) (w2 hw) (w36 hw) (by decide) (argsL := [(.ref b76)]) (CtrN.back (Wd := 0) W79 (rm2 l Z a0 hw gCS gO1 gO2 gO4 gO6 gO8 gO9 gO10 gO11 gO12 gO13 k_gO2 k_gO9 k_gO11 k_gO13 b76 t79 kb79 [(117 : Int32), (110 : Int32), (105 : Int32), (102 : Int32), (111 : Int32), (114 : Int32), (109 : Int32)] h79 W79.old SgO2__VALUES VgO2 XgO2 FitgO2 FgO1_label SgCS NgCS XgO8 FgO8_value FgO8_coder VgO9 X79 Fv79 Fc79 B79 ok78 (own_eqne _) FgO4_label XgO10 FgO10_value FgO10_coder VgO11 (own_eqN (by simp)) FgO6_label XgO12 FgO12_value FgO12_coder VgO13 (own_eqN (by simp))) (w36 hw) (w2 hw) (by decide) (by decide)) (by rw [hml]; rfl) (lenOf pd3 rfl) (S := []) rfl (by exact Nat.le_of_eq rfl) (pc' := 508) (hb hy at_505) rfl (cells' := 9) (slots' := 59) rfl rfl (by decide) (by decide) (wy := []) (fun _ _ _ q => ⟨q.1, q.2.1⟩) all0 (fun _ _ => trivial) ?_
        intro v80 T80 h80 lo80 W80 K80 q80
        obtain rfl := q80.2.2
        show Gl _ _ _ _ _ _ _ _ [(.ref gO1)]
        refine o_aload W80 (pc' := 510) (hb hy at_508) rfl rfl rfl ?_
        refine o_acmpN W80 (pc' := 513) (hb hy at_510) rfl rfl (XT.aa_ne_f rfl) rfl ?_
        refine o_iconst W80 (v := 1) (pc' := 514) (hb hy at_513) rfl rfl ?_
        refine o_goto W80 (pc' := 518) (hb hy at_514) (by decide) rfl ?_
        exact o_retN W80 hlk (t := .boolean) hret (by simp) (z' := (1 : Int32)) (by decide) (hb hy at_518) (by decide) (by decide) rfl
      · refine o_irem W50 (v := 5) (pc' := 341) (hb hy at_340) (by decide) ek55 rfl ?_
        refine o_istore W50 (L' := #[.val (.int p0), .val (.int p1), .val (.int p2), .val (.int p3), .val (.int 0), .val (.int 0), .val (.int (p2 &&& (255 : Int32))), .val (.ref b1), .val (.ref b9), .val (.ref b22), .val (.ref b31), .val (.ref b32), .val (.ref b40), .unset, .unset, .val (.ref b1), .val (.ref gO1), .val (.int 5), .unset]) (pc' := 343) (hb hy at_341) rfl rfl ?_
        refine o_aload W50 (pc' := 345) (hb hy at_343) rfl rfl rfl ?_
        refine o_iload W50 (pc' := 347) (hb hy at_345) rfl rfl ?_
        refine o_caload W50 c54 (x := (114 : Int32)) (i := 5) (by decide) (by decide) (by decide) rfl (pc' := 348) (hb hy at_347) rfl ?_
        refine o_istore W50 (L' := #[.val (.int p0), .val (.int p1), .val (.int p2), .val (.int p3), .val (.int 0), .val (.int 0), .val (.int (p2 &&& (255 : Int32))), .val (.ref b1), .val (.ref b9), .val (.ref b22), .val (.ref b31), .val (.ref b32), .val (.ref b40), .unset, .unset, .val (.ref b1), .val (.ref gO1), .val (.int 5), .val (.int 114)]) (pc' := 350) (hb hy at_348) rfl rfl ?_
        refine o_iload W50 (pc' := 352) (hb hy at_350) rfl rfl ?_
        refine o_ifY W50 (pc' := 362) (hb hy at_352) (XT.i0_eq_t (by decide)) (by decide) rfl ?_
        refine o_new W50 (w5 hw) (w6 hw) (w7 hw) (fun _ _ => trivial) (pc' := 365) (hb hy at_362) rfl (cells' := 7) (slots' := 49) rfl rfl (by decide) (by decide) ?_
        intro b81 T81 h81 W81 E81 ge81 gz81 gb81 A81 D81
        have Fb81_coder : Fld Z h81 b81 "java/lang/String" "coder" "B" (.int 0) := D81 (Or.inr (w31 hw)) (ty := .byte) (by decide)
        have Fb81_value : Fld Z h81 b81 "java/lang/String" "value" "[B" .null := D81 (Or.inr (w33 hw)) (ty := (.array .byte)) (by decide)
        refine o_dup W81 (pc' := 366) (hb hy at_365) rfl rfl ?_
        refine o_aload W81 (pc' := 368) (hb hy at_366) rfl rfl rfl ?_
        have c82 := (c54.ext E81)
        have ok83 : own_ok [(117 : Int32), (110 : Int32), (105 : Int32), (102 : Int32), (111 : Int32), (114 : Int32), (109 : Int32)] := ⟨by simp only [List.mem_cons, List.not_mem_nil, or_false, forall_eq_or_imp, forall_eq, false_imp_iff, implies_true]; exact ⟨(by unfold own_b; decide), (by unfold own_b; decide), (by unfold own_b; decide), (by unfold own_b; decide), (by unfold own_b; decide), (by unfold own_b; decide), (by unfold own_b; decide)⟩, Nat.le_of_ble_eq_true rfl⟩
        refine o_special W81 (y := (⟨"java/lang/String", "<init>", "([C)V"⟩ : MethodName)) rfl (w8 hw) (w9 hw) (w10 hw) (by decide) (a := b81) (argsL := [(.ref b1)]) (StrChars.Road.backV (W := 1) W81.2.2.2.1 (own_hV hw) (kI := 4) (w6 hw) (cs := [(117 : Int32), (110 : Int32), (105 : Int32), (102 : Int32), (111 : Int32), (114 : Int32), (109 : Int32)]) (bs := [((117 : Int32)).toInt8.toInt32, ((110 : Int32)).toInt8.toInt32, ((105 : Int32)).toInt8.toInt32, ((102 : Int32)).toInt8.toInt32, ((111 : Int32)).toInt8.toInt32, ((114 : Int32)).toInt8.toInt32, ((109 : Int32)).toInt8.toInt32]) (n := 7) (n0 := Z.heap.size) gz81 W81.zs A81 Fb81_value Fb81_coder c82 (SgCS.ext W81.ox) NgCS rfl rfl (by decide) (by decide) ok83.1 rfl (by decide) (by decide)) (by rw [hml]; rfl) (lenOf pd0 rfl) (S := [(.ref b81)]) rfl (by exact Nat.le_of_eq rfl) (pc' := 371) (hb hy at_368) rfl (cells' := 8) (slots' := 56) rfl rfl (by decide) (by decide) (wy := [b81]) (fun _ _ _ q => ⟨q.2.1, q.2.2.1⟩) (allS ⟨gz81, (Or.inr gb81)⟩ all0) (fun _ _ => trivial) ?_
        intro v84 T84 h84 lo84 W84 K84 q84
        obtain ⟨rfl, -, -, X84, Fc84, t84, kb84, gz84, ge84, -, Fv84, A84⟩ := q84
        have B84 : Arv Z h84 t84 kb84 .byte (7 : Int32) [(.int (StrChars.lo8 (117 : Int32))), (.int (StrChars.lo8 (110 : Int32))), (.int (StrChars.lo8 (105 : Int32))), (.int (StrChars.lo8 (102 : Int32))), (.int (StrChars.lo8 (111 : Int32))), (.int (StrChars.lo8 (114 : Int32))), (.int (StrChars.lo8 (109 : Int32)))] (.int 0) := A84
        show Gl _ _ _ _ _ _ _ _ [(.ref b81)]
        refine o_astore W84 (L' := #[.val (.int p0), .val (.int p1), .val (.int p2), .val (.int p3), .val (.int 0), .val (.int 0), .val (.int (p2 &&& (255 : Int32))), .val (.ref b1), .val (.ref b9), .val (.ref b22), .val (.ref b31), .val (.ref b32), .val (.ref b40), .val (.ref b81), .unset, .val (.ref b1), .val (.ref gO1), .val (.int 5), .val (.int 114)]) (pc' := 373) (hb hy at_371) rfl rfl rfl ?_
        refine o_iload W84 (pc' := 375) (hb hy at_373) rfl rfl ?_
        refine o_ifY W84 (pc' := 385) (hb hy at_375) (XT.i0_eq_t (by decide)) (by decide) rfl ?_
        refine o_aload W84 (pc' := 387) (hb hy at_385) rfl rfl rfl ?_
        refine o_astore W84 (L' := #[.val (.int p0), .val (.int p1), .val (.int p2), .val (.int p3), .val (.int 0), .val (.int 0), .val (.int (p2 &&& (255 : Int32))), .val (.ref b1), .val (.ref b9), .val (.ref b22), .val (.ref b31), .val (.ref b32), .val (.ref b40), .val (.ref b81), .val (.ref gO1), .val (.ref b1), .val (.ref gO1), .val (.int 5), .val (.int 114)]) (pc' := 389) (hb hy at_387) rfl rfl rfl ?_
        refine o_goto W84 (pc' := 395) (hb hy at_389) (by decide) rfl ?_
        refine o_goto W84 (pc' := 503) (hb hy at_395) (by decide) rfl ?_
        refine o_aload W84 (pc' := 505) (hb hy at_503) rfl rfl rfl ?_
        refine o_static W84 (y := (⟨"com/example/sessn/sessn/session/Weights", "labelled", "(Ljava/lang/String;)Lcom/example/sessn/sessn/session/Weights;"⟩ : MethodName)) (w34 hw) (w35 hw) (w2 hw) (w36 hw) (by decide) (argsL := [(.ref b81)]) (CtrN.back (Wd := 0) W84 (rm2 l Z a0 hw gCS gO1 gO2 gO4 gO6 gO8 gO9 gO10 gO11 gO12 gO13 k_gO2 k_gO9 k_gO11 k_gO13 b81 t84 kb84 [(117 : Int32), (110 : Int32), (105 : Int32), (102 : Int32), (111 : Int32), (114 : Int32), (109 : Int32)] h84 W84.old SgO2__VALUES VgO2 XgO2 FitgO2 FgO1_label SgCS NgCS XgO8 FgO8_value FgO8_coder VgO9 X84 Fv84 Fc84 B84 ok83 (own_eqne _) FgO4_label XgO10 FgO10_value FgO10_coder VgO11 (own_eqN (by simp)) FgO6_label XgO12 FgO12_value FgO12_coder VgO13 (own_eqN (by simp))) (w36 hw) (w2 hw) (by decide) (by decide)) (by rw [hml]; rfl) (lenOf pd3 rfl) (S := []) rfl (by exact Nat.le_of_eq rfl) (pc' := 508) (hb hy at_505) rfl (cells' := 9) (slots' := 59) rfl rfl (by decide) (by decide) (wy := []) (fun _ _ _ q => ⟨q.1, q.2.1⟩) all0 (fun _ _ => trivial) ?_
        intro v85 T85 h85 lo85 W85 K85 q85
        obtain rfl := q85.2.2
        show Gl _ _ _ _ _ _ _ _ [(.ref gO1)]
        refine o_aload W85 (pc' := 510) (hb hy at_508) rfl rfl rfl ?_
        refine o_acmpN W85 (pc' := 513) (hb hy at_510) rfl rfl (XT.aa_ne_f rfl) rfl ?_
        refine o_iconst W85 (v := 1) (pc' := 514) (hb hy at_513) rfl rfl ?_
        refine o_goto W85 (pc' := 518) (hb hy at_514) (by decide) rfl ?_
        exact o_retN W85 hlk (t := .boolean) hret (by simp) (z' := (1 : Int32)) (by decide) (hb hy at_518) (by decide) (by decide) rfl
      · refine o_irem W50 (v := 6) (pc' := 341) (hb hy at_340) (by decide) ek55 rfl ?_
        refine o_istore W50 (L' := #[.val (.int p0), .val (.int p1), .val (.int p2), .val (.int p3), .val (.int 0), .val (.int 0), .val (.int (p2 &&& (255 : Int32))), .val (.ref b1), .val (.ref b9), .val (.ref b22), .val (.ref b31), .val (.ref b32), .val (.ref b40), .unset, .unset, .val (.ref b1), .val (.ref gO1), .val (.int 6), .unset]) (pc' := 343) (hb hy at_341) rfl rfl ?_
        refine o_aload W50 (pc' := 345) (hb hy at_343) rfl rfl rfl ?_
        refine o_iload W50 (pc' := 347) (hb hy at_345) rfl rfl ?_
        refine o_caload W50 c54 (x := (109 : Int32)) (i := 6) (by decide) (by decide) (by decide) rfl (pc' := 348) (hb hy at_347) rfl ?_
        refine o_istore W50 (L' := #[.val (.int p0), .val (.int p1), .val (.int p2), .val (.int p3), .val (.int 0), .val (.int 0), .val (.int (p2 &&& (255 : Int32))), .val (.ref b1), .val (.ref b9), .val (.ref b22), .val (.ref b31), .val (.ref b32), .val (.ref b40), .unset, .unset, .val (.ref b1), .val (.ref gO1), .val (.int 6), .val (.int 109)]) (pc' := 350) (hb hy at_348) rfl rfl ?_
        refine o_iload W50 (pc' := 352) (hb hy at_350) rfl rfl ?_
        refine o_ifY W50 (pc' := 362) (hb hy at_352) (XT.i0_eq_t (by decide)) (by decide) rfl ?_
        refine o_new W50 (w5 hw) (w6 hw) (w7 hw) (fun _ _ => trivial) (pc' := 365) (hb hy at_362) rfl (cells' := 7) (slots' := 49) rfl rfl (by decide) (by decide) ?_
        intro b86 T86 h86 W86 E86 ge86 gz86 gb86 A86 D86
        have Fb86_coder : Fld Z h86 b86 "java/lang/String" "coder" "B" (.int 0) := D86 (Or.inr (w31 hw)) (ty := .byte) (by decide)
        have Fb86_value : Fld Z h86 b86 "java/lang/String" "value" "[B" .null := D86 (Or.inr (w33 hw)) (ty := (.array .byte)) (by decide)
        refine o_dup W86 (pc' := 366) (hb hy at_365) rfl rfl ?_
        refine o_aload W86 (pc' := 368) (hb hy at_366) rfl rfl rfl ?_
        have c87 := (c54.ext E86)
        have ok88 : own_ok [(117 : Int32), (110 : Int32), (105 : Int32), (102 : Int32), (111 : Int32), (114 : Int32), (109 : Int32)] := ⟨by simp only [List.mem_cons, List.not_mem_nil, or_false, forall_eq_or_imp, forall_eq, false_imp_iff, implies_true]; exact ⟨(by unfold own_b; decide), (by unfold own_b; decide), (by unfold own_b; decide), (by unfold own_b; decide), (by unfold own_b; decide), (by unfold own_b; decide), (by unfold own_b; decide)⟩, Nat.le_of_ble_eq_true rfl⟩
        refine o_special W86 (y := (⟨"java/lang/String", "<init>", "([C)V"⟩ : MethodName)) rfl (w8 hw) (w9 hw) (w10 hw) (by decide) (a := b86) (argsL := [(.ref b1)]) (StrChars.Road.backV (W := 1) W86.2.2.2.1 (own_hV hw) (kI := 4) (w6 hw) (cs := [(117 : Int32), (110 : Int32), (105 : Int32), (102 : Int32), (111 : Int32), (114 : Int32), (109 : Int32)]) (bs := [((117 : Int32)).toInt8.toInt32, ((110 : Int32)).toInt8.toInt32, ((105 : Int32)).toInt8.toInt32, ((102 : Int32)).toInt8.toInt32, ((111 : Int32)).toInt8.toInt32, ((114 : Int32)).toInt8.toInt32, ((109 : Int32)).toInt8.toInt32]) (n := 7) (n0 := Z.heap.size) gz86 W86.zs A86 Fb86_value Fb86_coder c87 (SgCS.ext W86.ox) NgCS rfl rfl (by decide) (by decide) ok88.1 rfl (by decide) (by decide)) (by rw [hml]; rfl) (lenOf pd0 rfl) (S := [(.ref b86)]) rfl (by exact Nat.le_of_eq rfl) (pc' := 371) (hb hy at_368) rfl (cells' := 8) (slots' := 56) rfl rfl (by decide) (by decide) (wy := [b86]) (fun _ _ _ q => ⟨q.2.1, q.2.2.1⟩) (allS ⟨gz86, (Or.inr gb86)⟩ all0) (fun _ _ => trivial) ?_
        intro v89 T89 h89 lo89 W89 K89 q89
        obtain ⟨rfl, -, -, X89, Fc89, t89, kb89, gz89, ge89, -, Fv89, A89⟩ := q89
        have B89 : Arv Z h89 t89 kb89 .byte (7 : Int32) [(.int (StrChars.lo8 (117 : Int32))), (.int (StrChars.lo8 (110 : Int32))), (.int (StrChars.lo8 (105 : Int32))), (.int (StrChars.lo8 (102 : Int32))), (.int (StrChars.lo8 (111 : Int32))), (.int (StrChars.lo8 (114 : Int32))), (.int (StrChars.lo8 (109 : Int32)))] (.int 0) := A89
        show Gl _ _ _ _ _ _ _ _ [(.ref b86)]
        refine o_astore W89 (L' := #[.val (.int p0), .val (.int p1), .val (.int p2), .val (.int p3), .val (.int 0), .val (.int 0), .val (.int (p2 &&& (255 : Int32))), .val (.ref b1), .val (.ref b9), .val (.ref b22), .val (.ref b31), .val (.ref b32), .val (.ref b40), .val (.ref b86), .unset, .val (.ref b1), .val (.ref gO1), .val (.int 6), .val (.int 109)]) (pc' := 373) (hb hy at_371) rfl rfl rfl ?_
        refine o_iload W89 (pc' := 375) (hb hy at_373) rfl rfl ?_
        refine o_ifY W89 (pc' := 385) (hb hy at_375) (XT.i0_eq_t (by decide)) (by decide) rfl ?_
        refine o_aload W89 (pc' := 387) (hb hy at_385) rfl rfl rfl ?_
        refine o_astore W89 (L' := #[.val (.int p0), .val (.int p1), .val (.int p2), .val (.int p3), .val (.int 0), .val (.int 0), .val (.int (p2 &&& (255 : Int32))), .val (.ref b1), .val (.ref b9), .val (.ref b22), .val (.ref b31), .val (.ref b32), .val (.ref b40), .val (.ref b86), .val (.ref gO1), .val (.ref b1), .val (.ref gO1), .val (.int 6), .val (.int 109)]) (pc' := 389) (hb hy at_387) rfl rfl rfl ?_
        refine o_goto W89 (pc' := 395) (hb hy at_389) (by decide) rfl ?_
        refine o_goto W89 (pc' := 503) (hb hy at_395) (by decide) rfl ?_
        refine o_aload W89 (pc' := 505) (hb hy at_503) rfl rfl rfl ?_
        refine o_static W89 (y := (⟨"com/example/sessn/sessn/session/Weights", "labelled", "(Ljava/lang/String;)Lcom/example/sessn/sessn/session/Weights;"⟩ : MethodName)) (w34 hw) (w35 hw) (w2 hw) (w36 hw) (by decide) (argsL := [(.ref b86)]) (CtrN.back (Wd := 0) W89 (rm2 l Z a0 hw gCS gO1 gO2 gO4 gO6 gO8 gO9 gO10 gO11 gO12 gO13 k_gO2 k_gO9 k_gO11 k_gO13 b86 t89 kb89 [(117 : Int32), (110 : Int32), (105 : Int32), (102 : Int32), (111 : Int32), (114 : Int32), (109 : Int32)] h89 W89.old SgO2__VALUES VgO2 XgO2 FitgO2 FgO1_label SgCS NgCS XgO8 FgO8_value FgO8_coder VgO9 X89 Fv89 Fc89 B89 ok88 (own_eqne _) FgO4_label XgO10 FgO10_value FgO10_coder VgO11 (own_eqN (by simp)) FgO6_label XgO12 FgO12_value FgO12_coder VgO13 (own_eqN (by simp))) (w36 hw) (w2 hw) (by decide) (by decide)) (by rw [hml]; rfl) (lenOf pd3 rfl) (S := []) rfl (by exact Nat.le_of_eq rfl) (pc' := 508) (hb hy at_505) rfl (cells' := 9) (slots' := 59) rfl rfl (by decide) (by decide) (wy := []) (fun _ _ _ q => ⟨q.1, q.2.1⟩) all0 (fun _ _ => trivial) ?_
        intro v90 T90 h90 lo90 W90 K90 q90
        obtain rfl := q90.2.2
        show Gl _ _ _ _ _ _ _ _ [(.ref gO1)]
        refine o_aload W90 (pc' := 510) (hb hy at_508) rfl rfl rfl ?_
        refine o_acmpN W90 (pc' := 513) (hb hy at_510) rfl rfl (XT.aa_ne_f rfl) rfl ?_
        refine o_iconst W90 (v := 1) (pc' := 514) (hb hy at_513) rfl rfl ?_
        refine o_goto W90 (pc' := 518) (hb hy at_514) (by decide) rfl ?_
        exact o_retN W90 hlk (t := .boolean) hret (by simp) (z' := (1 : Int32)) (by decide) (hb hy at_518) (by decide) (by decide) rfl
    · rw [ek49]
      refine o_iload W48 (pc' := 285) (hb hy at_283) rfl rfl ?_
      refine o_iconst W48 (v := 3) (pc' := 286) (hb hy at_285) rfl rfl ?_
      refine o_icmpN W48 (pc' := 289) (hb hy at_286) (XT.ii_ge_f (by decide)) rfl ?_
      refine o_iload W48 (pc' := 291) (hb hy at_289) rfl rfl ?_
      refine o_ifY W48 (pc' := 306) (hb hy at_291) (XT.i0_ne_t (by decide)) (by decide) rfl ?_
      refine o_iload W48 (pc' := 308) (hb hy at_306) rfl rfl ?_
      refine o_iconst W48 (v := 1) (pc' := 309) (hb hy at_308) rfl rfl ?_
      refine o_icmpN W48 (pc' := 312) (hb hy at_309) (XT.ii_ne_f (by decide)) rfl ?_
      refine o_aload W48 (pc' := 314) (hb hy at_312) rfl rfl rfl ?_
      refine o_astore W48 (L' := #[.val (.int p0), .val (.int p1), .val (.int p2), .val (.int p3), .val (.int 1), .val (.int 0), .val (.int (p2 &&& (255 : Int32))), .val (.ref b1), .val (.ref b9), .val (.ref b22), .val (.ref b31), .val (.ref b32), .val (.ref b40), .unset, .unset, .val (.ref b9), .unset, .unset, .unset]) (pc' := 316) (hb hy at_314) rfl rfl rfl ?_
      refine o_getS W48 (w67 hw) Via.refl (SgO4_PREV_CURRENT.ext W48.ox) (pc' := 319) (hb hy at_316) rfl ?_
      intro T91 W91
      refine o_astore W91 (L' := #[.val (.int p0), .val (.int p1), .val (.int p2), .val (.int p3), .val (.int 1), .val (.int 0), .val (.int (p2 &&& (255 : Int32))), .val (.ref b1), .val (.ref b9), .val (.ref b22), .val (.ref b31), .val (.ref b32), .val (.ref b40), .unset, .unset, .val (.ref b9), .val (.ref gO4), .unset, .unset]) (pc' := 321) (hb hy at_319) rfl rfl rfl ?_
      refine o_goto W91 (pc' := 333) (hb hy at_321) (by decide) rfl ?_
      refine o_iloadN W91 (pc' := 334) (hb hy at_333) rfl rfl ?_
      refine o_ldcI W91 (w4 hw) (pc' := 336) (hb hy at_334) rfl ?_
      refine o_iand W91 (v := (p1 &&& (2147483647 : Int32))) (pc' := 337) (hb hy at_336) rfl rfl ?_
      refine o_aload W91 (pc' := 339) (hb hy at_337) rfl rfl rfl ?_
      have c92 := ((((((((((V21.ext E22).other R23 (own_ne V21.lt ge22)).other R24 (own_ne V21.lt ge22)).other R25 (own_ne V21.lt ge22)).other R26 (own_ne V21.lt ge22)).other R27 (own_ne V21.lt ge22)).other R28 (own_ne V21.lt ge22)).other R29 (own_ne V21.lt ge22)).other R30 (own_ne V21.lt ge22)).ext E31)
      have c93 := ((((((((c92.ext E32).other R33 (own_ne c92.lt ge32)).other R34 (own_ne c92.lt ge32)).other R35 (own_ne c92.lt ge32)).other R36 (own_ne c92.lt ge32)).other R37 (own_ne c92.lt ge32)).other R38 (own_ne c92.lt ge32)).other R39 (own_ne c92.lt ge32))
      have c94 := (((((((((((((((((((((((((((V21.ext E22).other R23 (own_ne V21.lt ge22)).other R24 (own_ne V21.lt ge22)).other R25 (own_ne V21.lt ge22)).other R26 (own_ne V21.lt ge22)).other R27 (own_ne V21.lt ge22)).other R28 (own_ne V21.lt ge22)).other R29 (own_ne V21.lt ge22)).other R30 (own_ne V21.lt ge22)).ext E31).ext E32).other R33 (own_ne c92.lt ge32)).other R34 (own_ne c92.lt ge32)).other R35 (own_ne c92.lt ge32)).other R36 (own_ne c92.lt ge32)).other R37 (own_ne c92.lt ge32)).other R38 (own_ne c92.lt ge32)).other R39 (own_ne c92.lt ge32)).ext E40).other R41 (own_ne c93.lt ge40)).other R42 (own_ne c93.lt ge40)).other R43 (own_ne c93.lt ge40)).other R44 (own_ne c93.lt ge40)).other R45 (own_ne c93.lt ge40)).other R46 (own_ne c93.lt ge40)).other R47 (own_ne c93.lt ge40)).other R48 (own_ne c93.lt ge40))
      refine o_len W91 c94 (pc' := 340) (hb hy at_339) rfl ?_
      rcases own_rem12 p1 with ek95 | ek95 | ek95 | ek95 | ek95 | ek95 | ek95 | ek95 | ek95 | ek95 | ek95 | ek95
      · refine o_irem W91 (v := 0) (pc' := 341) (hb hy at_340) (by decide) ek95 rfl ?_
        refine o_istore W91 (L' := #[.val (.int p0), .val (.int p1), .val (.int p2), .val (.int p3), .val (.int 1), .val (.int 0), .val (.int (p2 &&& (255 : Int32))), .val (.ref b1), .val (.ref b9), .val (.ref b22), .val (.ref b31), .val (.ref b32), .val (.ref b40), .unset, .unset, .val (.ref b9), .val (.ref gO4), .val (.int 0), .unset]) (pc' := 343) (hb hy at_341) rfl rfl ?_
        refine o_aload W91 (pc' := 345) (hb hy at_343) rfl rfl rfl ?_
        refine o_iload W91 (pc' := 347) (hb hy at_345) rfl rfl ?_
        refine o_caload W91 c94 (x := (112 : Int32)) (i := 0) (by decide) (by decide) (by decide) rfl (pc' := 348) (hb hy at_347) rfl ?_
        refine o_istore W91 (L' := #[.val (.int p0), .val (.int p1), .val (.int p2), .val (.int p3), .val (.int 1), .val (.int 0), .val (.int (p2 &&& (255 : Int32))), .val (.ref b1), .val (.ref b9), .val (.ref b22), .val (.ref b31), .val (.ref b32), .val (.ref b40), .unset, .unset, .val (.ref b9), .val (.ref gO4), .val (.int 0), .val (.int 112)]) (pc' := 350) (hb hy at_348) rfl rfl ?_
        refine o_iload W91 (pc' := 352) (hb hy at_350) rfl rfl ?_
        refine o_ifY W91 (pc' := 362) (hb hy at_352) (XT.i0_eq_t (by decide)) (by decide) rfl ?_
        refine o_new W91 (w5 hw) (w6 hw) (w7 hw) (fun _ _ => trivial) (pc' := 365) (hb hy at_362) rfl (cells' := 7) (slots' := 49) rfl rfl (by decide) (by decide) ?_
        intro b96 T96 h96 W96 E96 ge96 gz96 gb96 A96 D96
        have Fb96_coder : Fld Z h96 b96 "java/lang/String" "coder" "B" (.int 0) := D96 (Or.inr (w31 hw)) (ty := .byte) (by decide)
        have Fb96_value : Fld Z h96 b96 "java/lang/String" "value" "[B" .null := D96 (Or.inr (w33 hw)) (ty := (.array .byte)) (by decide)
        refine o_dup W96 (pc' := 366) (hb hy at_365) rfl rfl ?_
        refine o_aload W96 (pc' := 368) (hb hy at_366) rfl rfl rfl ?_
        have c97 := (c94.ext E96)
        have ok98 : own_ok [(112 : Int32), (114 : Int32), (101 : Int32), (118 : Int32), (45 : Int32), (99 : Int32), (117 : Int32), (114 : Int32), (114 : Int32), (101 : Int32), (110 : Int32), (116 : Int32)] := ⟨by simp only [List.mem_cons, List.not_mem_nil, or_false, forall_eq_or_imp, forall_eq, false_imp_iff, implies_true]; exact ⟨(by unfold own_b; decide), (by unfold own_b; decide), (by unfold own_b; decide), (by unfold own_b; decide), (by unfold own_b; decide), (by unfold own_b; decide), (by unfold own_b; decide), (by unfold own_b; decide), (by unfold own_b; decide), (by unfold own_b; decide), (by unfold own_b; decide), (by unfold own_b; decide)⟩, Nat.le_of_ble_eq_true rfl⟩
        refine o_special W96 (y := (⟨"java/lang/String", "<init>", "([C)V"⟩ : MethodName)) rfl (w8 hw) (w9 hw) (w10 hw) (by decide) (a := b96) (argsL := [(.ref b9)]) (StrChars.Road.backV (W := 1) W96.2.2.2.1 (own_hV hw) (kI := 4) (w6 hw) (cs := [(112 : Int32), (114 : Int32), (101 : Int32), (118 : Int32), (45 : Int32), (99 : Int32), (117 : Int32), (114 : Int32), (114 : Int32), (101 : Int32), (110 : Int32), (116 : Int32)]) (bs := [((112 : Int32)).toInt8.toInt32, ((114 : Int32)).toInt8.toInt32, ((101 : Int32)).toInt8.toInt32, ((118 : Int32)).toInt8.toInt32, ((45 : Int32)).toInt8.toInt32, ((99 : Int32)).toInt8.toInt32, ((117 : Int32)).toInt8.toInt32, ((114 : Int32)).toInt8.toInt32, ((114 : Int32)).toInt8.toInt32, ((101 : Int32)).toInt8.toInt32, ((110 : Int32)).toInt8.toInt32, ((116 : Int32)).toInt8.toInt32]) (n := 12) (n0 := Z.heap.size) gz96 W96.zs A96 Fb96_value Fb96_coder c97 (SgCS.ext W96.ox) NgCS rfl rfl (by decide) (by decide) ok98.1 rfl (by decide) (by decide)) (by rw [hml]; rfl) (lenOf pd0 rfl) (S := [(.ref b96)]) rfl (by exact Nat.le_of_eq rfl) (pc' := 371) (hb hy at_368) rfl (cells' := 8) (slots' := 61) rfl rfl (by decide) (by decide) (wy := [b96]) (fun _ _ _ q => ⟨q.2.1, q.2.2.1⟩) (allS ⟨gz96, (Or.inr gb96)⟩ all0) (fun _ _ => trivial) ?_
        intro v99 T99 h99 lo99 W99 K99 q99
        obtain ⟨rfl, -, -, X99, Fc99, t99, kb99, gz99, ge99, -, Fv99, A99⟩ := q99
        have B99 : Arv Z h99 t99 kb99 .byte (12 : Int32) [(.int (StrChars.lo8 (112 : Int32))), (.int (StrChars.lo8 (114 : Int32))), (.int (StrChars.lo8 (101 : Int32))), (.int (StrChars.lo8 (118 : Int32))), (.int (StrChars.lo8 (45 : Int32))), (.int (StrChars.lo8 (99 : Int32))), (.int (StrChars.lo8 (117 : Int32))), (.int (StrChars.lo8 (114 : Int32))), (.int (StrChars.lo8 (114 : Int32))), (.int (StrChars.lo8 (101 : Int32))), (.int (StrChars.lo8 (110 : Int32))), (.int (StrChars.lo8 (116 : Int32)))] (.int 0) := A99
        show Gl _ _ _ _ _ _ _ _ [(.ref b96)]
        refine o_astore W99 (L' := #[.val (.int p0), .val (.int p1), .val (.int p2), .val (.int p3), .val (.int 1), .val (.int 0), .val (.int (p2 &&& (255 : Int32))), .val (.ref b1), .val (.ref b9), .val (.ref b22), .val (.ref b31), .val (.ref b32), .val (.ref b40), .val (.ref b96), .unset, .val (.ref b9), .val (.ref gO4), .val (.int 0), .val (.int 112)]) (pc' := 373) (hb hy at_371) rfl rfl rfl ?_
        refine o_iload W99 (pc' := 375) (hb hy at_373) rfl rfl ?_
        refine o_ifY W99 (pc' := 385) (hb hy at_375) (XT.i0_eq_t (by decide)) (by decide) rfl ?_
        refine o_aload W99 (pc' := 387) (hb hy at_385) rfl rfl rfl ?_
        refine o_astore W99 (L' := #[.val (.int p0), .val (.int p1), .val (.int p2), .val (.int p3), .val (.int 1), .val (.int 0), .val (.int (p2 &&& (255 : Int32))), .val (.ref b1), .val (.ref b9), .val (.ref b22), .val (.ref b31), .val (.ref b32), .val (.ref b40), .val (.ref b96), .val (.ref gO4), .val (.ref b9), .val (.ref gO4), .val (.int 0), .val (.int 112)]) (pc' := 389) (hb hy at_387) rfl rfl rfl ?_
        refine o_goto W99 (pc' := 395) (hb hy at_389) (by decide) rfl ?_
        refine o_goto W99 (pc' := 503) (hb hy at_395) (by decide) rfl ?_
        refine o_aload W99 (pc' := 505) (hb hy at_503) rfl rfl rfl ?_
        refine o_static W99 (y := (⟨"com/example/sessn/sessn/session/Weights", "labelled", "(Ljava/lang/String;)Lcom/example/sessn/sessn/session/Weights;"⟩ : MethodName)) (w34 hw) (w35 hw) (w2 hw) (w36 hw) (by decide) (argsL := [(.ref b96)]) (CtrN.back (Wd := 0) W99 (rm3 l Z a0 hw gCS gO1 gO2 gO4 gO6 gO8 gO9 gO10 gO11 gO12 gO13 k_gO2 k_gO9 k_gO11 k_gO13 b96 t99 kb99 [(112 : Int32), (114 : Int32), (101 : Int32), (118 : Int32), (45 : Int32), (99 : Int32), (117 : Int32), (114 : Int32), (114 : Int32), (101 : Int32), (110 : Int32), (116 : Int32)] h99 W99.old SgO2__VALUES VgO2 XgO2 FitgO2 FgO1_label SgCS NgCS XgO8 FgO8_value FgO8_coder VgO9 X99 Fv99 Fc99 B99 ok98 (own_eqN (by simp)) FgO4_label XgO10 FgO10_value FgO10_coder VgO11 (own_eqne _) FgO6_label XgO12 FgO12_value FgO12_coder VgO13 (own_eqN (by simp))) (w36 hw) (w2 hw) (by decide) (by decide)) (by rw [hml]; rfl) (lenOf pd3 rfl) (S := []) rfl (by exact Nat.le_of_eq rfl) (pc' := 508) (hb hy at_505) rfl (cells' := 9) (slots' := 64) rfl rfl (by decide) (by decide) (wy := []) (fun _ _ _ q => ⟨q.1, q.2.1⟩) all0 (fun _ _ => trivial) ?_
        intro v100 T100 h100 lo100 W100 K100 q100
        obtain rfl := q100.2.2
        show Gl _ _ _ _ _ _ _ _ [(.ref gO4)]
        refine o_aload W100 (pc' := 510) (hb hy at_508) rfl rfl rfl ?_
        refine o_acmpN W100 (pc' := 513) (hb hy at_510) rfl rfl (XT.aa_ne_f rfl) rfl ?_
        refine o_iconst W100 (v := 1) (pc' := 514) (hb hy at_513) rfl rfl ?_
        refine o_goto W100 (pc' := 518) (hb hy at_514) (by decide) rfl ?_
        exact o_retN W100 hlk (t := .boolean) hret (by simp) (z' := (1 : Int32)) (by decide) (hb hy at_518) (by decide) (by decide) rfl
      · refine o_irem W91 (v := 1) (pc' := 341) (hb hy at_340) (by decide) ek95 rfl ?_
        refine o_istore W91 (L' := #[.val (.int p0), .val (.int p1), .val (.int p2), .val (.int p3), .val (.int 1), .val (.int 0), .val (.int (p2 &&& (255 : Int32))), .val (.ref b1), .val (.ref b9), .val (.ref b22), .val (.ref b31), .val (.ref b32), .val (.ref b40), .unset, .unset, .val (.ref b9), .val (.ref gO4), .val (.int 1), .unset]) (pc' := 343) (hb hy at_341) rfl rfl ?_
        refine o_aload W91 (pc' := 345) (hb hy at_343) rfl rfl rfl ?_
        refine o_iload W91 (pc' := 347) (hb hy at_345) rfl rfl ?_
        refine o_caload W91 c94 (x := (114 : Int32)) (i := 1) (by decide) (by decide) (by decide) rfl (pc' := 348) (hb hy at_347) rfl ?_
        refine o_istore W91 (L' := #[.val (.int p0), .val (.int p1), .val (.int p2), .val (.int p3), .val (.int 1), .val (.int 0), .val (.int (p2 &&& (255 : Int32))), .val (.ref b1), .val (.ref b9), .val (.ref b22), .val (.ref b31), .val (.ref b32), .val (.ref b40), .unset, .unset, .val (.ref b9), .val (.ref gO4), .val (.int 1), .val (.int 114)]) (pc' := 350) (hb hy at_348) rfl rfl ?_
        refine o_iload W91 (pc' := 352) (hb hy at_350) rfl rfl ?_
        refine o_ifY W91 (pc' := 362) (hb hy at_352) (XT.i0_eq_t (by decide)) (by decide) rfl ?_
        refine o_new W91 (w5 hw) (w6 hw) (w7 hw) (fun _ _ => trivial) (pc' := 365) (hb hy at_362) rfl (cells' := 7) (slots' := 49) rfl rfl (by decide) (by decide) ?_
        intro b101 T101 h101 W101 E101 ge101 gz101 gb101 A101 D101
        have Fb101_coder : Fld Z h101 b101 "java/lang/String" "coder" "B" (.int 0) := D101 (Or.inr (w31 hw)) (ty := .byte) (by decide)
        have Fb101_value : Fld Z h101 b101 "java/lang/String" "value" "[B" .null := D101 (Or.inr (w33 hw)) (ty := (.array .byte)) (by decide)
        refine o_dup W101 (pc' := 366) (hb hy at_365) rfl rfl ?_
        refine o_aload W101 (pc' := 368) (hb hy at_366) rfl rfl rfl ?_
        have c102 := (c94.ext E101)
        have ok103 : own_ok [(112 : Int32), (114 : Int32), (101 : Int32), (118 : Int32), (45 : Int32), (99 : Int32), (117 : Int32), (114 : Int32), (114 : Int32), (101 : Int32), (110 : Int32), (116 : Int32)] := ⟨by simp only [List.mem_cons, List.not_mem_nil, or_false, forall_eq_or_imp, forall_eq, false_imp_iff, implies_true]; exact ⟨(by unfold own_b; decide), (by unfold own_b; decide), (by unfold own_b; decide), (by unfold own_b; decide), (by unfold own_b; decide), (by unfold own_b; decide), (by unfold own_b; decide), (by unfold own_b; decide), (by unfold own_b; decide), (by unfold own_b; decide), (by unfold own_b; decide), (by unfold own_b; decide)⟩, Nat.le_of_ble_eq_true rfl⟩
        refine o_special W101 (y := (⟨"java/lang/String", "<init>", "([C)V"⟩ : MethodName)) rfl (w8 hw) (w9 hw) (w10 hw) (by decide) (a := b101) (argsL := [(.ref b9)]) (StrChars.Road.backV (W := 1) W101.2.2.2.1 (own_hV hw) (kI := 4) (w6 hw) (cs := [(112 : Int32), (114 : Int32), (101 : Int32), (118 : Int32), (45 : Int32), (99 : Int32), (117 : Int32), (114 : Int32), (114 : Int32), (101 : Int32), (110 : Int32), (116 : Int32)]) (bs := [((112 : Int32)).toInt8.toInt32, ((114 : Int32)).toInt8.toInt32, ((101 : Int32)).toInt8.toInt32, ((118 : Int32)).toInt8.toInt32, ((45 : Int32)).toInt8.toInt32, ((99 : Int32)).toInt8.toInt32, ((117 : Int32)).toInt8.toInt32, ((114 : Int32)).toInt8.toInt32, ((114 : Int32)).toInt8.toInt32, ((101 : Int32)).toInt8.toInt32, ((110 : Int32)).toInt8.toInt32, ((116 : Int32)).toInt8.toInt32]) (n := 12) (n0 := Z.heap.size) gz101 W101.zs A101 Fb101_value Fb101_coder c102 (SgCS.ext W101.ox) NgCS rfl rfl (by decide) (by decide) ok103.1 rfl (by decide) (by decide)) (by rw [hml]; rfl) (lenOf pd0 rfl) (S := [(.ref b101)]) rfl (by exact Nat.le_of_eq rfl) (pc' := 371) (hb hy at_368) rfl (cells' := 8) (slots' := 61) rfl rfl (by decide) (by decide) (wy := [b101]) (fun _ _ _ q => ⟨q.2.1, q.2.2.1⟩) (allS ⟨gz101, (Or.inr gb101)⟩ all0) (fun _ _ => trivial) ?_
        intro v104 T104 h104 lo104 W104 K104 q104
        obtain ⟨rfl, -, -, X104, Fc104, t104, kb104, gz104, ge104, -, Fv104, A104⟩ := q104
        have B104 : Arv Z h104 t104 kb104 .byte (12 : Int32) [(.int (StrChars.lo8 (112 : Int32))), (.int (StrChars.lo8 (114 : Int32))), (.int (StrChars.lo8 (101 : Int32))), (.int (StrChars.lo8 (118 : Int32))), (.int (StrChars.lo8 (45 : Int32))), (.int (StrChars.lo8 (99 : Int32))), (.int (StrChars.lo8 (117 : Int32))), (.int (StrChars.lo8 (114 : Int32))), (.int (StrChars.lo8 (114 : Int32))), (.int (StrChars.lo8 (101 : Int32))), (.int (StrChars.lo8 (110 : Int32))), (.int (StrChars.lo8 (116 : Int32)))] (.int 0) := A104
        show Gl _ _ _ _ _ _ _ _ [(.ref b101)]
        refine o_astore W104 (L' := #[.val (.int p0), .val (.int p1), .val (.int p2), .val (.int p3), .val (.int 1), .val (.int 0), .val (.int (p2 &&& (255 : Int32))), .val (.ref b1), .val (.ref b9), .val (.ref b22), .val (.ref b31), .val (.ref b32), .val (.ref b40), .val (.ref b101), .unset, .val (.ref b9), .val (.ref gO4), .val (.int 1), .val (.int 114)]) (pc' := 373) (hb hy at_371) rfl rfl rfl ?_
        refine o_iload W104 (pc' := 375) (hb hy at_373) rfl rfl ?_
        refine o_ifY W104 (pc' := 385) (hb hy at_375) (XT.i0_eq_t (by decide)) (by decide) rfl ?_
        refine o_aload W104 (pc' := 387) (hb hy at_385) rfl rfl rfl ?_
        refine o_astore W104 (L' := #[.val (.int p0), .val (.int p1), .val (.int p2), .val (.int p3), .val (.int 1), .val (.int 0), .val (.int (p2 &&& (255 : Int32))), .val (.ref b1), .val (.ref b9), .val (.ref b22), .val (.ref b31), .val (.ref b32), .val (.ref b40), .val (.ref b101), .val (.ref gO4), .val (.ref b9), .val (.ref gO4), .val (.int 1), .val (.int 114)]) (pc' := 389) (hb hy at_387) rfl rfl rfl ?_
        refine o_goto W104 (pc' := 395) (hb hy at_389) (by decide) rfl ?_
        refine o_goto W104 (pc' := 503) (hb hy at_395) (by decide) rfl ?_
        refine o_aload W104 (pc' := 505) (hb hy at_503) rfl rfl rfl ?_
        refine o_static W104 (y := (⟨"com/example/sessn/sessn/session/Weights", "labelled", "(Ljava/lang/String;)Lcom/example/sessn/sessn/session/Weights;"⟩ : MethodName)) (w34 hw) (w35 hw) (w2 hw) (w36 hw) (by decide) (argsL := [(.ref b101)]) (CtrN.back (Wd := 0) W104 (rm3 l Z a0 hw gCS gO1 gO2 gO4 gO6 gO8 gO9 gO10 gO11 gO12 gO13 k_gO2 k_gO9 k_gO11 k_gO13 b101 t104 kb104 [(112 : Int32), (114 : Int32), (101 : Int32), (118 : Int32), (45 : Int32), (99 : Int32), (117 : Int32), (114 : Int32), (114 : Int32), (101 : Int32), (110 : Int32), (116 : Int32)] h104 W104.old SgO2__VALUES VgO2 XgO2 FitgO2 FgO1_label SgCS NgCS XgO8 FgO8_value FgO8_coder VgO9 X104 Fv104 Fc104 B104 ok103 (own_eqN (by simp)) FgO4_label XgO10 FgO10_value FgO10_coder VgO11 (own_eqne _) FgO6_label XgO12 FgO12_value FgO12_coder VgO13 (own_eqN (by simp))) (w36 hw) (w2 hw) (by decide) (by decide)) (by rw [hml]; rfl) (lenOf pd3 rfl) (S := []) rfl (by exact Nat.le_of_eq rfl) (pc' := 508) (hb hy at_505) rfl (cells' := 9) (slots' := 64) rfl rfl (by decide) (by decide) (wy := []) (fun _ _ _ q => ⟨q.1, q.2.1⟩) all0 (fun _ _ => trivial) ?_
        intro v105 T105 h105 lo105 W105 K105 q105
        obtain rfl := q105.2.2
        show Gl _ _ _ _ _ _ _ _ [(.ref gO4)]
        refine o_aload W105 (pc' := 510) (hb hy at_508) rfl rfl rfl ?_
        refine o_acmpN W105 (pc' := 513) (hb hy at_510) rfl rfl (XT.aa_ne_f rfl) rfl ?_
        refine o_iconst W105 (v := 1) (pc' := 514) (hb hy at_513) rfl rfl ?_
        refine o_goto W105 (pc' := 518) (hb hy at_514) (by decide) rfl ?_
        exact o_retN W105 hlk (t := .boolean) hret (by simp) (z' := (1 : Int32)) (by decide) (hb hy at_518) (by decide) (by decide) rfl
      · refine o_irem W91 (v := 2) (pc' := 341) (hb hy at_340) (by decide) ek95 rfl ?_
        refine o_istore W91 (L' := #[.val (.int p0), .val (.int p1), .val (.int p2), .val (.int p3), .val (.int 1), .val (.int 0), .val (.int (p2 &&& (255 : Int32))), .val (.ref b1), .val (.ref b9), .val (.ref b22), .val (.ref b31), .val (.ref b32), .val (.ref b40), .unset, .unset, .val (.ref b9), .val (.ref gO4), .val (.int 2), .unset]) (pc' := 343) (hb hy at_341) rfl rfl ?_
        refine o_aload W91 (pc' := 345) (hb hy at_343) rfl rfl rfl ?_
        refine o_iload W91 (pc' := 347) (hb hy at_345) rfl rfl ?_
        refine o_caload W91 c94 (x := (101 : Int32)) (i := 2) (by decide) (by decide) (by decide) rfl (pc' := 348) (hb hy at_347) rfl ?_
        refine o_istore W91 (L' := #[.val (.int p0), .val (.int p1), .val (.int p2), .val (.int p3), .val (.int 1), .val (.int 0), .val (.int (p2 &&& (255 : Int32))), .val (.ref b1), .val (.ref b9), .val (.ref b22), .val (.ref b31), .val (.ref b32), .val (.ref b40), .unset, .unset, .val (.ref b9), .val (.ref gO4), .val (.int 2), .val (.int 101)]) (pc' := 350) (hb hy at_348) rfl rfl ?_
        refine o_iload W91 (pc' := 352) (hb hy at_350) rfl rfl ?_
        refine o_ifY W91 (pc' := 362) (hb hy at_352) (XT.i0_eq_t (by decide)) (by decide) rfl ?_
        refine o_new W91 (w5 hw) (w6 hw) (w7 hw) (fun _ _ => trivial) (pc' := 365) (hb hy at_362) rfl (cells' := 7) (slots' := 49) rfl rfl (by decide) (by decide) ?_
        intro b106 T106 h106 W106 E106 ge106 gz106 gb106 A106 D106
        have Fb106_coder : Fld Z h106 b106 "java/lang/String" "coder" "B" (.int 0) := D106 (Or.inr (w31 hw)) (ty := .byte) (by decide)
        have Fb106_value : Fld Z h106 b106 "java/lang/String" "value" "[B" .null := D106 (Or.inr (w33 hw)) (ty := (.array .byte)) (by decide)
        refine o_dup W106 (pc' := 366) (hb hy at_365) rfl rfl ?_
        refine o_aload W106 (pc' := 368) (hb hy at_366) rfl rfl rfl ?_
        have c107 := (c94.ext E106)
        have ok108 : own_ok [(112 : Int32), (114 : Int32), (101 : Int32), (118 : Int32), (45 : Int32), (99 : Int32), (117 : Int32), (114 : Int32), (114 : Int32), (101 : Int32), (110 : Int32), (116 : Int32)] := ⟨by simp only [List.mem_cons, List.not_mem_nil, or_false, forall_eq_or_imp, forall_eq, false_imp_iff, implies_true]; exact ⟨(by unfold own_b; decide), (by unfold own_b; decide), (by unfold own_b; decide), (by unfold own_b; decide), (by unfold own_b; decide), (by unfold own_b; decide), (by unfold own_b; decide), (by unfold own_b; decide), (by unfold own_b; decide), (by unfold own_b; decide), (by unfold own_b; decide), (by unfold own_b; decide)⟩, Nat.le_of_ble_eq_true rfl⟩
        refine o_special W106 (y := (⟨"java/lang/String", "<init>", "([C)V"⟩ : MethodName)) rfl (w8 hw) (w9 hw) (w10 hw) (by decide) (a := b106) (argsL := [(.ref b9)]) (StrChars.Road.backV (W := 1) W106.2.2.2.1 (own_hV hw) (kI := 4) (w6 hw) (cs := [(112 : Int32), (114 : Int32), (101 : Int32), (118 : Int32), (45 : Int32), (99 : Int32), (117 : Int32), (114 : Int32), (114 : Int32), (101 : Int32), (110 : Int32), (116 : Int32)]) (bs := [((112 : Int32)).toInt8.toInt32, ((114 : Int32)).toInt8.toInt32, ((101 : Int32)).toInt8.toInt32, ((118 : Int32)).toInt8.toInt32, ((45 : Int32)).toInt8.toInt32, ((99 : Int32)).toInt8.toInt32, ((117 : Int32)).toInt8.toInt32, ((114 : Int32)).toInt8.toInt32, ((114 : Int32)).toInt8.toInt32, ((101 : Int32)).toInt8.toInt32, ((110 : Int32)).toInt8.toInt32, ((116 : Int32)).toInt8.toInt32]) (n := 12) (n0 := Z.heap.size) gz106 W106.zs A106 Fb106_value Fb106_coder c107 (SgCS.ext W106.ox) NgCS rfl rfl (by decide) (by decide) ok108.1 rfl (by decide) (by decide)) (by rw [hml]; rfl) (lenOf pd0 rfl) (S := [(.ref b106)]) rfl (by exact Nat.le_of_eq rfl) (pc' := 371) (hb hy at_368) rfl (cells' := 8) (slots' := 61) rfl rfl (by decide) (by decide) (wy := [b106]) (fun _ _ _ q => ⟨q.2.1, q.2.2.1⟩) (allS ⟨gz106, (Or.inr gb106)⟩ all0) (fun _ _ => trivial) ?_
        intro v109 T109 h109 lo109 W109 K109 q109
        obtain ⟨rfl, -, -, X109, Fc109, t109, kb109, gz109, ge109, -, Fv109, A109⟩ := q109
        have B109 : Arv Z h109 t109 kb109 .byte (12 : Int32) [(.int (StrChars.lo8 (112 : Int32))), (.int (StrChars.lo8 (114 : Int32))), (.int (StrChars.lo8 (101 : Int32))), (.int (StrChars.lo8 (118 : Int32))), (.int (StrChars.lo8 (45 : Int32))), (.int (StrChars.lo8 (99 : Int32))), (.int (StrChars.lo8 (117 : Int32))), (.int (StrChars.lo8 (114 : Int32))), (.int (StrChars.lo8 (114 : Int32))), (.int (StrChars.lo8 (101 : Int32))), (.int (StrChars.lo8 (110 : Int32))), (.int (StrChars.lo8 (116 : Int32)))] (.int 0) := A109
        show Gl _ _ _ _ _ _ _ _ [(.ref b106)]
        refine o_astore W109 (L' := #[.val (.int p0), .val (.int p1), .val (.int p2), .val (.int p3), .val (.int 1), .val (.int 0), .val (.int (p2 &&& (255 : Int32))), .val (.ref b1), .val (.ref b9), .val (.ref b22), .val (.ref b31), .val (.ref b32), .val (.ref b40), .val (.ref b106), .unset, .val (.ref b9), .val (.ref gO4), .val (.int 2), .val (.int 101)]) (pc' := 373) (hb hy at_371) rfl rfl rfl ?_
        refine o_iload W109 (pc' := 375) (hb hy at_373) rfl rfl ?_
        refine o_ifY W109 (pc' := 385) (hb hy at_375) (XT.i0_eq_t (by decide)) (by decide) rfl ?_
        refine o_aload W109 (pc' := 387) (hb hy at_385) rfl rfl rfl ?_
        refine o_astore W109 (L' := #[.val (.int p0), .val (.int p1), .val (.int p2), .val (.int p3), .val (.int 1), .val (.int 0), .val (.int (p2 &&& (255 : Int32))), .val (.ref b1), .val (.ref b9), .val (.ref b22), .val (.ref b31), .val (.ref b32), .val (.ref b40), .val (.ref b106), .val (.ref gO4), .val (.ref b9), .val (.ref gO4), .val (.int 2), .val (.int 101)]) (pc' := 389) (hb hy at_387) rfl rfl rfl ?_
        refine o_goto W109 (pc' := 395) (hb hy at_389) (by decide) rfl ?_
        refine o_goto W109 (pc' := 503) (hb hy at_395) (by decide) rfl ?_
        refine o_aload W109 (pc' := 505) (hb hy at_503) rfl rfl rfl ?_
        refine o_static W109 (y := (⟨"com/example/sessn/sessn/session/Weights", "labelled", "(Ljava/lang/String;)Lcom/example/sessn/sessn/session/Weights;"⟩ : MethodName)) (w34 hw) (w35 hw) (w2 hw) (w36 hw) (by decide) (argsL := [(.ref b106)]) (CtrN.back (Wd := 0) W109 (rm3 l Z a0 hw gCS gO1 gO2 gO4 gO6 gO8 gO9 gO10 gO11 gO12 gO13 k_gO2 k_gO9 k_gO11 k_gO13 b106 t109 kb109 [(112 : Int32), (114 : Int32), (101 : Int32), (118 : Int32), (45 : Int32), (99 : Int32), (117 : Int32), (114 : Int32), (114 : Int32), (101 : Int32), (110 : Int32), (116 : Int32)] h109 W109.old SgO2__VALUES VgO2 XgO2 FitgO2 FgO1_label SgCS NgCS XgO8 FgO8_value FgO8_coder VgO9 X109 Fv109 Fc109 B109 ok108 (own_eqN (by simp)) FgO4_label XgO10 FgO10_value FgO10_coder VgO11 (own_eqne _) FgO6_label XgO12 FgO12_value FgO12_coder VgO13 (own_eqN (by simp))) (w36 hw) (w2 hw) (by decide) (by decide)) (by rw [hml]; rfl) (lenOf pd3 rfl) (S := []) rfl (by exact Nat.le_of_eq rfl) (pc' := 508) (hb hy at_505) rfl (cells' := 9) (slots' := 64) rfl rfl (by decide) (by decide) (wy := []) (fun _ _ _ q => ⟨q.1, q.2.1⟩) all0 (fun _ _ => trivial) ?_
        intro v110 T110 h110 lo110 W110 K110 q110
        obtain rfl := q110.2.2
        show Gl _ _ _ _ _ _ _ _ [(.ref gO4)]
        refine o_aload W110 (pc' := 510) (hb hy at_508) rfl rfl rfl ?_
        refine o_acmpN W110 (pc' := 513) (hb hy at_510) rfl rfl (XT.aa_ne_f rfl) rfl ?_
        refine o_iconst W110 (v := 1) (pc' := 514) (hb hy at_513) rfl rfl ?_
        refine o_goto W110 (pc' := 518) (hb hy at_514) (by decide) rfl ?_
        exact o_retN W110 hlk (t := .boolean) hret (by simp) (z' := (1 : Int32)) (by decide) (hb hy at_518) (by decide) (by decide) rfl
      · refine o_irem W91 (v := 3) (pc' := 341) (hb hy at_340) (by decide) ek95 rfl ?_
        refine o_istore W91 (L' := #[.val (.int p0), .val (.int p1), .val (.int p2), .val (.int p3), .val (.int 1), .val (.int 0), .val (.int (p2 &&& (255 : Int32))), .val (.ref b1), .val (.ref b9), .val (.ref b22), .val (.ref b31), .val (.ref b32), .val (.ref b40), .unset, .unset, .val (.ref b9), .val (.ref gO4), .val (.int 3), .unset]) (pc' := 343) (hb hy at_341) rfl rfl ?_
        refine o_aload W91 (pc' := 345) (hb hy at_343) rfl rfl rfl ?_
        refine o_iload W91 (pc' := 347) (hb hy at_345) rfl rfl ?_
        refine o_caload W91 c94 (x := (118 : Int32)) (i := 3) (by decide) (by decide) (by decide) rfl (pc' := 348) (hb hy at_347) rfl ?_
        refine o_istore W91 (L' := #[.val (.int p0), .val (.int p1), .val (.int p2), .val (.int p3), .val (.int 1), .val (.int 0), .val (.int (p2 &&& (255 : Int32))), .val (.ref b1), .val (.ref b9), .val (.ref b22), .val (.ref b31), .val (.ref b32), .val (.ref b40), .unset, .unset, .val (.ref b9), .val (.ref gO4), .val (.int 3), .val (.int 118)]) (pc' := 350) (hb hy at_348) rfl rfl ?_
        refine o_iload W91 (pc' := 352) (hb hy at_350) rfl rfl ?_
        refine o_ifY W91 (pc' := 362) (hb hy at_352) (XT.i0_eq_t (by decide)) (by decide) rfl ?_
        refine o_new W91 (w5 hw) (w6 hw) (w7 hw) (fun _ _ => trivial) (pc' := 365) (hb hy at_362) rfl (cells' := 7) (slots' := 49) rfl rfl (by decide) (by decide) ?_
        intro b111 T111 h111 W111 E111 ge111 gz111 gb111 A111 D111
        have Fb111_coder : Fld Z h111 b111 "java/lang/String" "coder" "B" (.int 0) := D111 (Or.inr (w31 hw)) (ty := .byte) (by decide)
        have Fb111_value : Fld Z h111 b111 "java/lang/String" "value" "[B" .null := D111 (Or.inr (w33 hw)) (ty := (.array .byte)) (by decide)
        refine o_dup W111 (pc' := 366) (hb hy at_365) rfl rfl ?_
        refine o_aload W111 (pc' := 368) (hb hy at_366) rfl rfl rfl ?_
        have c112 := (c94.ext E111)
        have ok113 : own_ok [(112 : Int32), (114 : Int32), (101 : Int32), (118 : Int32), (45 : Int32), (99 : Int32), (117 : Int32), (114 : Int32), (114 : Int32), (101 : Int32), (110 : Int32), (116 : Int32)] := ⟨by simp only [List.mem_cons, List.not_mem_nil, or_false, forall_eq_or_imp, forall_eq, false_imp_iff, implies_true]; exact ⟨(by unfold own_b; decide), (by unfold own_b; decide), (by unfold own_b; decide), (by unfold own_b; decide), (by unfold own_b; decide), (by unfold own_b; decide), (by unfold own_b; decide), (by unfold own_b; decide), (by unfold own_b; decide), (by unfold own_b; decide), (by unfold own_b; decide), (by unfold own_b; decide)⟩, Nat.le_of_ble_eq_true rfl⟩
        refine o_special W111 (y := (⟨"java/lang/String", "<init>", "([C)V"⟩ : MethodName)) rfl (w8 hw) (w9 hw) (w10 hw) (by decide) (a := b111) (argsL := [(.ref b9)]) (StrChars.Road.backV (W := 1) W111.2.2.2.1 (own_hV hw) (kI := 4) (w6 hw) (cs := [(112 : Int32), (114 : Int32), (101 : Int32), (118 : Int32), (45 : Int32), (99 : Int32), (117 : Int32), (114 : Int32), (114 : Int32), (101 : Int32), (110 : Int32), (116 : Int32)]) (bs := [((112 : Int32)).toInt8.toInt32, ((114 : Int32)).toInt8.toInt32, ((101 : Int32)).toInt8.toInt32, ((118 : Int32)).toInt8.toInt32, ((45 : Int32)).toInt8.toInt32, ((99 : Int32)).toInt8.toInt32, ((117 : Int32)).toInt8.toInt32, ((114 : Int32)).toInt8.toInt32, ((114 : Int32)).toInt8.toInt32, ((101 : Int32)).toInt8.toInt32, ((110 : Int32)).toInt8.toInt32, ((116 : Int32)).toInt8.toInt32]) (n := 12) (n0 := Z.heap.size) gz111 W111.zs A111 Fb111_value Fb111_coder c112 (SgCS.ext W111.ox) NgCS rfl rfl (by decide) (by decide) ok113.1 rfl (by decide) (by decide)) (by rw [hml]; rfl) (lenOf pd0 rfl) (S := [(.ref b111)]) rfl (by exact Nat.le_of_eq rfl) (pc' := 371) (hb hy at_368) rfl (cells' := 8) (slots' := 61) rfl rfl (by decide) (by decide) (wy := [b111]) (fun _ _ _ q => ⟨q.2.1, q.2.2.1⟩) (allS ⟨gz111, (Or.inr gb111)⟩ all0) (fun _ _ => trivial) ?_
        intro v114 T114 h114 lo114 W114 K114 q114
        obtain ⟨rfl, -, -, X114, Fc114, t114, kb114, gz114, ge114, -, Fv114, A114⟩ := q114
        have B114 : Arv Z h114 t114 kb114 .byte (12 : Int32) [(.int (StrChars.lo8 (112 : Int32))), (.int (StrChars.lo8 (114 : Int32))), (.int (StrChars.lo8 (101 : Int32))), (.int (StrChars.lo8 (118 : Int32))), (.int (StrChars.lo8 (45 : Int32))), (.int (StrChars.lo8 (99 : Int32))), (.int (StrChars.lo8 (117 : Int32))), (.int (StrChars.lo8 (114 : Int32))), (.int (StrChars.lo8 (114 : Int32))), (.int (StrChars.lo8 (101 : Int32))), (.int (StrChars.lo8 (110 : Int32))), (.int (StrChars.lo8 (116 : Int32)))] (.int 0) := A114
        show Gl _ _ _ _ _ _ _ _ [(.ref b111)]
        refine o_astore W114 (L' := #[.val (.int p0), .val (.int p1), .val (.int p2), .val (.int p3), .val (.int 1), .val (.int 0), .val (.int (p2 &&& (255 : Int32))), .val (.ref b1), .val (.ref b9), .val (.ref b22), .val (.ref b31), .val (.ref b32), .val (.ref b40), .val (.ref b111), .unset, .val (.ref b9), .val (.ref gO4), .val (.int 3), .val (.int 118)]) (pc' := 373) (hb hy at_371) rfl rfl rfl ?_
        refine o_iload W114 (pc' := 375) (hb hy at_373) rfl rfl ?_
        refine o_ifY W114 (pc' := 385) (hb hy at_375) (XT.i0_eq_t (by decide)) (by decide) rfl ?_
        refine o_aload W114 (pc' := 387) (hb hy at_385) rfl rfl rfl ?_
        refine o_astore W114 (L' := #[.val (.int p0), .val (.int p1), .val (.int p2), .val (.int p3), .val (.int 1), .val (.int 0), .val (.int (p2 &&& (255 : Int32))), .val (.ref b1), .val (.ref b9), .val (.ref b22), .val (.ref b31), .val (.ref b32), .val (.ref b40), .val (.ref b111), .val (.ref gO4), .val (.ref b9), .val (.ref gO4), .val (.int 3), .val (.int 118)]) (pc' := 389) (hb hy at_387) rfl rfl rfl ?_
        refine o_goto W114 (pc' := 395) (hb hy at_389) (by decide) rfl ?_
        refine o_goto W114 (pc' := 503) (hb hy at_395) (by decide) rfl ?_
        refine o_aload W114 (pc' := 505) (hb hy at_503) rfl rfl rfl ?_
        refine o_static W114 (y := (⟨"com/example/sessn/sessn/session/Weights", "labelled", "(Ljava/lang/String;)Lcom/example/sessn/sessn/session/Weights;"⟩ : MethodName)) (w34 hw) (w35 hw) (w2 hw) (w36 hw) (by decide) (argsL := [(.ref b111)]) (CtrN.back (Wd := 0) W114 (rm3 l Z a0 hw gCS gO1 gO2 gO4 gO6 gO8 gO9 gO10 gO11 gO12 gO13 k_gO2 k_gO9 k_gO11 k_gO13 b111 t114 kb114 [(112 : Int32), (114 : Int32), (101 : Int32), (118 : Int32), (45 : Int32), (99 : Int32), (117 : Int32), (114 : Int32), (114 : Int32), (101 : Int32), (110 : Int32), (116 : Int32)] h114 W114.old SgO2__VALUES VgO2 XgO2 FitgO2 FgO1_label SgCS NgCS XgO8 FgO8_value FgO8_coder VgO9 X114 Fv114 Fc114 B114 ok113 (own_eqN (by simp)) FgO4_label XgO10 FgO10_value FgO10_coder VgO11 (own_eqne _) FgO6_label XgO12 FgO12_value FgO12_coder VgO13 (own_eqN (by simp))) (w36 hw) (w2 hw) (by decide) (by decide)) (by rw [hml]; rfl) (lenOf pd3 rfl) (S := []) rfl (by exact Nat.le_of_eq rfl) (pc' := 508) (hb hy at_505) rfl (cells' := 9) (slots' := 64) rfl rfl (by decide) (by decide) (wy := []) (fun _ _ _ q => ⟨q.1, q.2.1⟩) all0 (fun _ _ => trivial) ?_
        intro v115 T115 h115 lo115 W115 K115 q115
        obtain rfl := q115.2.2
        show Gl _ _ _ _ _ _ _ _ [(.ref gO4)]
        refine o_aload W115 (pc' := 510) (hb hy at_508) rfl rfl rfl ?_
        refine o_acmpN W115 (pc' := 513) (hb hy at_510) rfl rfl (XT.aa_ne_f rfl) rfl ?_
        refine o_iconst W115 (v := 1) (pc' := 514) (hb hy at_513) rfl rfl ?_
        refine o_goto W115 (pc' := 518) (hb hy at_514) (by decide) rfl ?_
        exact o_retN W115 hlk (t := .boolean) hret (by simp) (z' := (1 : Int32)) (by decide) (hb hy at_518) (by decide) (by decide) rfl
      · refine o_irem W91 (v := 4) (pc' := 341) (hb hy at_340) (by decide) ek95 rfl ?_
        refine o_istore W91 (L' := #[.val (.int p0), .val (.int p1), .val (.int p2), .val (.int p3), .val (.int 1), .val (.int 0), .val (.int (p2 &&& (255 : Int32))), .val (.ref b1), .val (.ref b9), .val (.ref b22), .val (.ref b31), .val (.ref b32), .val (.ref b40), .unset, .unset, .val (.ref b9), .val (.ref gO4), .val (.int 4), .unset]) (pc' := 343) (hb hy at_341) rfl rfl ?_
        refine o_aload W91 (pc' := 345) (hb hy at_343) rfl rfl rfl ?_
        refine o_iload W91 (pc' := 347) (hb hy at_345) rfl rfl ?_
        refine o_caload W91 c94 (x := (45 : Int32)) (i := 4) (by decide) (by decide) (by decide) rfl (pc' := 348) (hb hy at_347) rfl ?_
        refine o_istore W91 (L' := #[.val (.int p0), .val (.int p1), .val (.int p2), .val (.int p3), .val (.int 1), .val (.int 0), .val (.int (p2 &&& (255 : Int32))), .val (.ref b1), .val (.ref b9), .val (.ref b22), .val (.ref b31), .val (.ref b32), .val (.ref b40), .unset, .unset, .val (.ref b9), .val (.ref gO4), .val (.int 4), .val (.int 45)]) (pc' := 350) (hb hy at_348) rfl rfl ?_
        refine o_iload W91 (pc' := 352) (hb hy at_350) rfl rfl ?_
        refine o_ifY W91 (pc' := 362) (hb hy at_352) (XT.i0_eq_t (by decide)) (by decide) rfl ?_
        refine o_new W91 (w5 hw) (w6 hw) (w7 hw) (fun _ _ => trivial) (pc' := 365) (hb hy at_362) rfl (cells' := 7) (slots' := 49) rfl rfl (by decide) (by decide) ?_
        intro b116 T116 h116 W116 E116 ge116 gz116 gb116 A116 D116
        have Fb116_coder : Fld Z h116 b116 "java/lang/String" "coder" "B" (.int 0) := D116 (Or.inr (w31 hw)) (ty := .byte) (by decide)
        have Fb116_value : Fld Z h116 b116 "java/lang/String" "value" "[B" .null := D116 (Or.inr (w33 hw)) (ty := (.array .byte)) (by decide)
        refine o_dup W116 (pc' := 366) (hb hy at_365) rfl rfl ?_
        refine o_aload W116 (pc' := 368) (hb hy at_366) rfl rfl rfl ?_
        have c117 := (c94.ext E116)
        have ok118 : own_ok [(112 : Int32), (114 : Int32), (101 : Int32), (118 : Int32), (45 : Int32), (99 : Int32), (117 : Int32), (114 : Int32), (114 : Int32), (101 : Int32), (110 : Int32), (116 : Int32)] := ⟨by simp only [List.mem_cons, List.not_mem_nil, or_false, forall_eq_or_imp, forall_eq, false_imp_iff, implies_true]; exact ⟨(by unfold own_b; decide), (by unfold own_b; decide), (by unfold own_b; decide), (by unfold own_b; decide), (by unfold own_b; decide), (by unfold own_b; decide), (by unfold own_b; decide), (by unfold own_b; decide), (by unfold own_b; decide), (by unfold own_b; decide), (by unfold own_b; decide), (by unfold own_b; decide)⟩, Nat.le_of_ble_eq_true rfl⟩
        refine o_special W116 (y := (⟨"java/lang/String", "<init>", "([C)V"⟩ : MethodName)) rfl (w8 hw) (w9 hw) (w10 hw) (by decide) (a := b116) (argsL := [(.ref b9)]) (StrChars.Road.backV (W := 1) W116.2.2.2.1 (own_hV hw) (kI := 4) (w6 hw) (cs := [(112 : Int32), (114 : Int32), (101 : Int32), (118 : Int32), (45 : Int32), (99 : Int32), (117 : Int32), (114 : Int32), (114 : Int32), (101 : Int32), (110 : Int32), (116 : Int32)]) (bs := [((112 : Int32)).toInt8.toInt32, ((114 : Int32)).toInt8.toInt32, ((101 : Int32)).toInt8.toInt32, ((118 : Int32)).toInt8.toInt32, ((45 : Int32)).toInt8.toInt32, ((99 : Int32)).toInt8.toInt32, ((117 : Int32)).toInt8.toInt32, ((114 : Int32)).toInt8.toInt32, ((114 : Int32)).toInt8.toInt32, ((101 : Int32)).toInt8.toInt32, ((110 : Int32)).toInt8.toInt32, ((116 : Int32)).toInt8.toInt32]) (n := 12) (n0 := Z.heap.size) gz116 W116.zs A116 Fb116_value Fb116_coder c117 (SgCS.ext W116.ox) NgCS rfl rfl (by decide) (by decide) ok118.1 rfl (by decide) (by decide)) (by rw [hml]; rfl) (lenOf pd0 rfl) (S := [(.ref b116)]) rfl (by exact Nat.le_of_eq rfl) (pc' := 371) (hb hy at_368) rfl (cells' := 8) (slots' := 61) rfl rfl (by decide) (by decide) (wy := [b116]) (fun _ _ _ q => ⟨q.2.1, q.2.2.1⟩) (allS ⟨gz116, (Or.inr gb116)⟩ all0) (fun _ _ => trivial) ?_
        intro v119 T119 h119 lo119 W119 K119 q119
        obtain ⟨rfl, -, -, X119, Fc119, t119, kb119, gz119, ge119, -, Fv119, A119⟩ := q119
        have B119 : Arv Z h119 t119 kb119 .byte (12 : Int32) [(.int (StrChars.lo8 (112 : Int32))), (.int (StrChars.lo8 (114 : Int32))), (.int (StrChars.lo8 (101 : Int32))), (.int (StrChars.lo8 (118 : Int32))), (.int (StrChars.lo8 (45 : Int32))), (.int (StrChars.lo8 (99 : Int32))), (.int (StrChars.lo8 (117 : Int32))), (.int (StrChars.lo8 (114 : Int32))), (.int (StrChars.lo8 (114 : Int32))), (.int (StrChars.lo8 (101 : Int32))), (.int (StrChars.lo8 (110 : Int32))), (.int (StrChars.lo8 (116 : Int32)))] (.int 0) := A119
        show Gl _ _ _ _ _ _ _ _ [(.ref b116)]
        refine o_astore W119 (L' := #[.val (.int p0), .val (.int p1), .val (.int p2), .val (.int p3), .val (.int 1), .val (.int 0), .val (.int (p2 &&& (255 : Int32))), .val (.ref b1), .val (.ref b9), .val (.ref b22), .val (.ref b31), .val (.ref b32), .val (.ref b40), .val (.ref b116), .unset, .val (.ref b9), .val (.ref gO4), .val (.int 4), .val (.int 45)]) (pc' := 373) (hb hy at_371) rfl rfl rfl ?_
        refine o_iload W119 (pc' := 375) (hb hy at_373) rfl rfl ?_
        refine o_ifY W119 (pc' := 385) (hb hy at_375) (XT.i0_eq_t (by decide)) (by decide) rfl ?_
        refine o_aload W119 (pc' := 387) (hb hy at_385) rfl rfl rfl ?_
        refine o_astore W119 (L' := #[.val (.int p0), .val (.int p1), .val (.int p2), .val (.int p3), .val (.int 1), .val (.int 0), .val (.int (p2 &&& (255 : Int32))), .val (.ref b1), .val (.ref b9), .val (.ref b22), .val (.ref b31), .val (.ref b32), .val (.ref b40), .val (.ref b116), .val (.ref gO4), .val (.ref b9), .val (.ref gO4), .val (.int 4), .val (.int 45)]) (pc' := 389) (hb hy at_387) rfl rfl rfl ?_
        refine o_goto W119 (pc' := 395) (hb hy at_389) (by decide) rfl ?_
        refine o_goto W119 (pc' := 503) (hb hy at_395) (by decide) rfl ?_
        refine o_aload W119 (pc' := 505) (hb hy at_503) rfl rfl rfl ?_
        refine o_static W119 (y := (⟨"com/example/sessn/sessn/session/Weights", "labelled", "(Ljava/lang/String;)Lcom/example/sessn/sessn/session/Weights;"⟩ : MethodName)) (w34 hw) (w35 hw) (w2 hw) (w36 hw) (by decide) (argsL := [(.ref b116)]) (CtrN.back (Wd := 0) W119 (rm3 l Z a0 hw gCS gO1 gO2 gO4 gO6 gO8 gO9 gO10 gO11 gO12 gO13 k_gO2 k_gO9 k_gO11 k_gO13 b116 t119 kb119 [(112 : Int32), (114 : Int32), (101 : Int32), (118 : Int32), (45 : Int32), (99 : Int32), (117 : Int32), (114 : Int32), (114 : Int32), (101 : Int32), (110 : Int32), (116 : Int32)] h119 W119.old SgO2__VALUES VgO2 XgO2 FitgO2 FgO1_label SgCS NgCS XgO8 FgO8_value FgO8_coder VgO9 X119 Fv119 Fc119 B119 ok118 (own_eqN (by simp)) FgO4_label XgO10 FgO10_value FgO10_coder VgO11 (own_eqne _) FgO6_label XgO12 FgO12_value FgO12_coder VgO13 (own_eqN (by simp))) (w36 hw) (w2 hw) (by decide) (by decide)) (by rw [hml]; rfl) (lenOf pd3 rfl) (S := []) rfl (by exact Nat.le_of_eq rfl) (pc' := 508) (hb hy at_505) rfl (cells' := 9) (slots' := 64) rfl rfl (by decide) (by decide) (wy := []) (fun _ _ _ q => ⟨q.1, q.2.1⟩) all0 (fun _ _ => trivial) ?_
        intro v120 T120 h120 lo120 W120 K120 q120
        obtain rfl := q120.2.2
        show Gl _ _ _ _ _ _ _ _ [(.ref gO4)]
        refine o_aload W120 (pc' := 510) (hb hy at_508) rfl rfl rfl ?_
        refine o_acmpN W120 (pc' := 513) (hb hy at_510) rfl rfl (XT.aa_ne_f rfl) rfl ?_
        refine o_iconst W120 (v := 1) (pc' := 514) (hb hy at_513) rfl rfl ?_
        refine o_goto W120 (pc' := 518) (hb hy at_514) (by decide) rfl ?_
        exact o_retN W120 hlk (t := .boolean) hret (by simp) (z' := (1 : Int32)) (by decide) (hb hy at_518) (by decide) (by decide) rfl
      · refine o_irem W91 (v := 5) (pc' := 341) (hb hy at_340) (by decide) ek95 rfl ?_
        refine o_istore W91 (L' := #[.val (.int p0), .val (.int p1), .val (.int p2), .val (.int p3), .val (.int 1), .val (.int 0), .val (.int (p2 &&& (255 : Int32))), .val (.ref b1), .val (.ref b9), .val (.ref b22), .val (.ref b31), .val (.ref b32), .val (.ref b40), .unset, .unset, .val (.ref b9), .val (.ref gO4), .val (.int 5), .unset]) (pc' := 343) (hb hy at_341) rfl rfl ?_
        refine o_aload W91 (pc' := 345) (hb hy at_343) rfl rfl rfl ?_
        refine o_iload W91 (pc' := 347) (hb hy at_345) rfl rfl ?_
        refine o_caload W91 c94 (x := (99 : Int32)) (i := 5) (by decide) (by decide) (by decide) rfl (pc' := 348) (hb hy at_347) rfl ?_
        refine o_istore W91 (L' := #[.val (.int p0), .val (.int p1), .val (.int p2), .val (.int p3), .val (.int 1), .val (.int 0), .val (.int (p2 &&& (255 : Int32))), .val (.ref b1), .val (.ref b9), .val (.ref b22), .val (.ref b31), .val (.ref b32), .val (.ref b40), .unset, .unset, .val (.ref b9), .val (.ref gO4), .val (.int 5), .val (.int 99)]) (pc' := 350) (hb hy at_348) rfl rfl ?_
        refine o_iload W91 (pc' := 352) (hb hy at_350) rfl rfl ?_
        refine o_ifY W91 (pc' := 362) (hb hy at_352) (XT.i0_eq_t (by decide)) (by decide) rfl ?_
        refine o_new W91 (w5 hw) (w6 hw) (w7 hw) (fun _ _ => trivial) (pc' := 365) (hb hy at_362) rfl (cells' := 7) (slots' := 49) rfl rfl (by decide) (by decide) ?_
        intro b121 T121 h121 W121 E121 ge121 gz121 gb121 A121 D121
        have Fb121_coder : Fld Z h121 b121 "java/lang/String" "coder" "B" (.int 0) := D121 (Or.inr (w31 hw)) (ty := .byte) (by decide)
        have Fb121_value : Fld Z h121 b121 "java/lang/String" "value" "[B" .null := D121 (Or.inr (w33 hw)) (ty := (.array .byte)) (by decide)
        refine o_dup W121 (pc' := 366) (hb hy at_365) rfl rfl ?_
        refine o_aload W121 (pc' := 368) (hb hy at_366) rfl rfl rfl ?_
        have c122 := (c94.ext E121)
        have ok123 : own_ok [(112 : Int32), (114 : Int32), (101 : Int32), (118 : Int32), (45 : Int32), (99 : Int32), (117 : Int32), (114 : Int32), (114 : Int32), (101 : Int32), (110 : Int32), (116 : Int32)] := ⟨by simp only [List.mem_cons, List.not_mem_nil, or_false, forall_eq_or_imp, forall_eq, false_imp_iff, implies_true]; exact ⟨(by unfold own_b; decide), (by unfold own_b; decide), (by unfold own_b; decide), (by unfold own_b; decide), (by unfold own_b; decide), (by unfold own_b; decide), (by unfold own_b; decide), (by unfold own_b; decide), (by unfold own_b; decide), (by unfold own_b; decide), (by unfold own_b; decide), (by unfold own_b; decide)⟩, Nat.le_of_ble_eq_true rfl⟩
        refine o_special W121 (y := (⟨"java/lang/String", "<init>", "([C)V"⟩ : MethodName)) rfl (w8 hw) (w9 hw) (w10 hw) (by decide) (a := b121) (argsL := [(.ref b9)]) (StrChars.Road.backV (W := 1) W121.2.2.2.1 (own_hV hw) (kI := 4) (w6 hw) (cs := [(112 : Int32), (114 : Int32), (101 : Int32), (118 : Int32), (45 : Int32), (99 : Int32), (117 : Int32), (114 : Int32), (114 : Int32), (101 : Int32), (110 : Int32), (116 : Int32)]) (bs := [((112 : Int32)).toInt8.toInt32, ((114 : Int32)).toInt8.toInt32, ((101 : Int32)).toInt8.toInt32, ((118 : Int32)).toInt8.toInt32, ((45 : Int32)).toInt8.toInt32, ((99 : Int32)).toInt8.toInt32, ((117 : Int32)).toInt8.toInt32, ((114 : Int32)).toInt8.toInt32, ((114 : Int32)).toInt8.toInt32, ((101 : Int32)).toInt8.toInt32, ((110 : Int32)).toInt8.toInt32, ((116 : Int32)).toInt8.toInt32]) (n := 12) (n0 := Z.heap.size) gz121 W121.zs A121 Fb121_value Fb121_coder c122 (SgCS.ext W121.ox) NgCS rfl rfl (by decide) (by decide) ok123.1 rfl (by decide) (by decide)) (by rw [hml]; rfl) (lenOf pd0 rfl) (S := [(.ref b121)]) rfl (by exact Nat.le_of_eq rfl) (pc' := 371) (hb hy at_368) rfl (cells' := 8) (slots' := 61) rfl rfl (by decide) (by decide) (wy := [b121]) (fun _ _ _ q => ⟨q.2.1, q.2.2.1⟩) (allS ⟨gz121, (Or.inr gb121)⟩ all0) (fun _ _ => trivial) ?_
        intro v124 T124 h124 lo124 W124 K124 q124
        obtain ⟨rfl, -, -, X124, Fc124, t124, kb124, gz124, ge124, -, Fv124, A124⟩ := q124
        have B124 : Arv Z h124 t124 kb124 .byte (12 : Int32) [(.int (StrChars.lo8 (112 : Int32))), (.int (StrChars.lo8 (114 : Int32))), (.int (StrChars.lo8 (101 : Int32))), (.int (StrChars.lo8 (118 : Int32))), (.int (StrChars.lo8 (45 : Int32))), (.int (StrChars.lo8 (99 : Int32))), (.int (StrChars.lo8 (117 : Int32))), (.int (StrChars.lo8 (114 : Int32))), (.int (StrChars.lo8 (114 : Int32))), (.int (StrChars.lo8 (101 : Int32))), (.int (StrChars.lo8 (110 : Int32))), (.int (StrChars.lo8 (116 : Int32)))] (.int 0) := A124
        show Gl _ _ _ _ _ _ _ _ [(.ref b121)]
        refine o_astore W124 (L' := #[.val (.int p0), .val (.int p1), .val (.int p2), .val (.int p3), .val (.int 1), .val (.int 0), .val (.int (p2 &&& (255 : Int32))), .val (.ref b1), .val (.ref b9), .val (.ref b22), .val (.ref b31), .val (.ref b32), .val (.ref b40), .val (.ref b121), .unset, .val (.ref b9), .val (.ref gO4), .val (.int 5), .val (.int 99)]) (pc' := 373) (hb hy at_371) rfl rfl rfl ?_
        refine o_iload W124 (pc' := 375) (hb hy at_373) rfl rfl ?_
        refine o_ifY W124 (pc' := 385) (hb hy at_375) (XT.i0_eq_t (by decide)) (by decide) rfl ?_
        refine o_aload W124 (pc' := 387) (hb hy at_385) rfl rfl rfl ?_
        refine o_astore W124 (L' := #[.val (.int p0), .val (.int p1), .val (.int p2), .val (.int p3), .val (.int 1), .val (.int 0), .val (.int (p2 &&& (255 : Int32))), .val (.ref b1), .val (.ref b9), .val (.ref b22), .val (.ref b31), .val (.ref b32), .val (.ref b40), .val (.ref b121), .val (.ref gO4), .val (.ref b9), .val (.ref gO4), .val (.int 5), .val (.int 99)]) (pc' := 389) (hb hy at_387) rfl rfl rfl ?_
        refine o_goto W124 (pc' := 395) (hb hy at_389) (by decide) rfl ?_
        refine o_goto W124 (pc' := 503) (hb hy at_395) (by decide) rfl ?_
        refine o_aload W124 (pc' := 505) (hb hy at_503) rfl rfl rfl ?_
        refine o_static W124 (y := (⟨"com/example/sessn/sessn/session/Weights", "labelled", "(Ljava/lang/String;)Lcom/example/sessn/sessn/session/Weights;"⟩ : MethodName)) (w34 hw) (w35 hw) (w2 hw) (w36 hw) (by decide) (argsL := [(.ref b121)]) (CtrN.back (Wd := 0) W124 (rm3 l Z a0 hw gCS gO1 gO2 gO4 gO6 gO8 gO9 gO10 gO11 gO12 gO13 k_gO2 k_gO9 k_gO11 k_gO13 b121 t124 kb124 [(112 : Int32), (114 : Int32), (101 : Int32), (118 : Int32), (45 : Int32), (99 : Int32), (117 : Int32), (114 : Int32), (114 : Int32), (101 : Int32), (110 : Int32), (116 : Int32)] h124 W124.old SgO2__VALUES VgO2 XgO2 FitgO2 FgO1_label SgCS NgCS XgO8 FgO8_value FgO8_coder VgO9 X124 Fv124 Fc124 B124 ok123 (own_eqN (by simp)) FgO4_label XgO10 FgO10_value FgO10_coder VgO11 (own_eqne _) FgO6_label XgO12 FgO12_value FgO12_coder VgO13 (own_eqN (by simp))) (w36 hw) (w2 hw) (by decide) (by decide)) (by rw [hml]; rfl) (lenOf pd3 rfl) (S := []) rfl (by exact Nat.le_of_eq rfl) (pc' := 508) (hb hy at_505) rfl (cells' := 9) (slots' := 64) rfl rfl (by decide) (by decide) (wy := []) (fun _ _ _ q => ⟨q.1, q.2.1⟩) all0 (fun _ _ => trivial) ?_
        intro v125 T125 h125 lo125 W125 K125 q125
        obtain rfl := q125.2.2
        show Gl _ _ _ _ _ _ _ _ [(.ref gO4)]
        refine o_aload W125 (pc' := 510) (hb hy at_508) rfl rfl rfl ?_
        refine o_acmpN W125 (pc' := 513) (hb hy at_510) rfl rfl (XT.aa_ne_f rfl) rfl ?_
        refine o_iconst W125 (v := 1) (pc' := 514) (hb hy at_513) rfl rfl ?_
        refine o_goto W125 (pc' := 518) (hb hy at_514) (by decide) rfl ?_
        exact o_retN W125 hlk (t := .boolean) hret (by simp) (z' := (1 : Int32)) (by decide) (hb hy at_518) (by decide) (by decide) rfl
      · refine o_irem W91 (v := 6) (pc' := 341) (hb hy at_340) (by decide) ek95 rfl ?_
        refine o_istore W91 (L' := #[.val (.int p0), .val (.int p1), .val (.int p2), .val (.int p3), .val (.int 1), .val (.int 0), .val (.int (p2 &&& (255 : Int32))), .val (.ref b1), .val (.ref b9), .val (.ref b22), .val (.ref b31), .val (.ref b32), .val (.ref b40), .unset, .unset, .val (.ref b9), .val (.ref gO4), .val (.int 6), .unset]) (pc' := 343) (hb hy at_341) rfl rfl ?_
        refine o_aload W91 (pc' := 345) (hb hy at_343) rfl rfl rfl ?_
        refine o_iload W91 (pc' := 347) (hb hy at_345) rfl rfl ?_
        refine o_caload W91 c94 (x := (117 : Int32)) (i := 6) (by decide) (by decide) (by decide) rfl (pc' := 348) (hb hy at_347) rfl ?_
        refine o_istore W91 (L' := #[.val (.int p0), .val (.int p1), .val (.int p2), .val (.int p3), .val (.int 1), .val (.int 0), .val (.int (p2 &&& (255 : Int32))), .val (.ref b1), .val (.ref b9), .val (.ref b22), .val (.ref b31), .val (.ref b32), .val (.ref b40), .unset, .unset, .val (.ref b9), .val (.ref gO4), .val (.int 6), .val (.int 117)]) (pc' := 350) (hb hy at_348) rfl rfl ?_
        refine o_iload W91 (pc' := 352) (hb hy at_350) rfl rfl ?_
        refine o_ifY W91 (pc' := 362) (hb hy at_352) (XT.i0_eq_t (by decide)) (by decide) rfl ?_
        refine o_new W91 (w5 hw) (w6 hw) (w7 hw) (fun _ _ => trivial) (pc' := 365) (hb hy at_362) rfl (cells' := 7) (slots' := 49) rfl rfl (by decide) (by decide) ?_
        intro b126 T126 h126 W126 E126 ge126 gz126 gb126 A126 D126
        have Fb126_coder : Fld Z h126 b126 "java/lang/String" "coder" "B" (.int 0) := D126 (Or.inr (w31 hw)) (ty := .byte) (by decide)
        have Fb126_value : Fld Z h126 b126 "java/lang/String" "value" "[B" .null := D126 (Or.inr (w33 hw)) (ty := (.array .byte)) (by decide)
        refine o_dup W126 (pc' := 366) (hb hy at_365) rfl rfl ?_
        refine o_aload W126 (pc' := 368) (hb hy at_366) rfl rfl rfl ?_
        have c127 := (c94.ext E126)
        have ok128 : own_ok [(112 : Int32), (114 : Int32), (101 : Int32), (118 : Int32), (45 : Int32), (99 : Int32), (117 : Int32), (114 : Int32), (114 : Int32), (101 : Int32), (110 : Int32), (116 : Int32)] := ⟨by simp only [List.mem_cons, List.not_mem_nil, or_false, forall_eq_or_imp, forall_eq, false_imp_iff, implies_true]; exact ⟨(by unfold own_b; decide), (by unfold own_b; decide), (by unfold own_b; decide), (by unfold own_b; decide), (by unfold own_b; decide), (by unfold own_b; decide), (by unfold own_b; decide), (by unfold own_b; decide), (by unfold own_b; decide), (by unfold own_b; decide), (by unfold own_b; decide), (by unfold own_b; decide)⟩, Nat.le_of_ble_eq_true rfl⟩
        refine o_special W126 (y := (⟨"java/lang/String", "<init>", "([C)V"⟩ : MethodName)) rfl (w8 hw) (w9 hw) (w10 hw) (by decide) (a := b126) (argsL := [(.ref b9)]) (StrChars.Road.backV (W := 1) W126.2.2.2.1 (own_hV hw) (kI := 4) (w6 hw) (cs := [(112 : Int32), (114 : Int32), (101 : Int32), (118 : Int32), (45 : Int32), (99 : Int32), (117 : Int32), (114 : Int32), (114 : Int32), (101 : Int32), (110 : Int32), (116 : Int32)]) (bs := [((112 : Int32)).toInt8.toInt32, ((114 : Int32)).toInt8.toInt32, ((101 : Int32)).toInt8.toInt32, ((118 : Int32)).toInt8.toInt32, ((45 : Int32)).toInt8.toInt32, ((99 : Int32)).toInt8.toInt32, ((117 : Int32)).toInt8.toInt32, ((114 : Int32)).toInt8.toInt32, ((114 : Int32)).toInt8.toInt32, ((101 : Int32)).toInt8.toInt32, ((110 : Int32)).toInt8.toInt32, ((116 : Int32)).toInt8.toInt32]) (n := 12) (n0 := Z.heap.size) gz126 W126.zs A126 Fb126_value Fb126_coder c127 (SgCS.ext W126.ox) NgCS rfl rfl (by decide) (by decide) ok128.1 rfl (by decide) (by decide)) (by rw [hml]; rfl) (lenOf pd0 rfl) (S := [(.ref b126)]) rfl (by exact Nat.le_of_eq rfl) (pc' := 371) (hb hy at_368) rfl (cells' := 8) (slots' := 61) rfl rfl (by decide) (by decide) (wy := [b126]) (fun _ _ _ q => ⟨q.2.1, q.2.2.1⟩) (allS ⟨gz126, (Or.inr gb126)⟩ all0) (fun _ _ => trivial) ?_
        intro v129 T129 h129 lo129 W129 K129 q129
        obtain ⟨rfl, -, -, X129, Fc129, t129, kb129, gz129, ge129, -, Fv129, A129⟩ := q129
        have B129 : Arv Z h129 t129 kb129 .byte (12 : Int32) [(.int (StrChars.lo8 (112 : Int32))), (.int (StrChars.lo8 (114 : Int32))), (.int (StrChars.lo8 (101 : Int32))), (.int (StrChars.lo8 (118 : Int32))), (.int (StrChars.lo8 (45 : Int32))), (.int (StrChars.lo8 (99 : Int32))), (.int (StrChars.lo8 (117 : Int32))), (.int (StrChars.lo8 (114 : Int32))), (.int (StrChars.lo8 (114 : Int32))), (.int (StrChars.lo8 (101 : Int32))), (.int (StrChars.lo8 (110 : Int32))), (.int (StrChars.lo8 (116 : Int32)))] (.int 0) := A129
        show Gl _ _ _ _ _ _ _ _ [(.ref b126)]
        refine o_astore W129 (L' := #[.val (.int p0), .val (.int p1), .val (.int p2), .val (.int p3), .val (.int 1), .val (.int 0), .val (.int (p2 &&& (255 : Int32))), .val (.ref b1), .val (.ref b9), .val (.ref b22), .val (.ref b31), .val (.ref b32), .val (.ref b40), .val (.ref b126), .unset, .val (.ref b9), .val (.ref gO4), .val (.int 6), .val (.int 117)]) (pc' := 373) (hb hy at_371) rfl rfl rfl ?_
        refine o_iload W129 (pc' := 375) (hb hy at_373) rfl rfl ?_
        refine o_ifY W129 (pc' := 385) (hb hy at_375) (XT.i0_eq_t (by decide)) (by decide) rfl ?_
        refine o_aload W129 (pc' := 387) (hb hy at_385) rfl rfl rfl ?_
        refine o_astore W129 (L' := #[.val (.int p0), .val (.int p1), .val (.int p2), .val (.int p3), .val (.int 1), .val (.int 0), .val (.int (p2 &&& (255 : Int32))), .val (.ref b1), .val (.ref b9), .val (.ref b22), .val (.ref b31), .val (.ref b32), .val (.ref b40), .val (.ref b126), .val (.ref gO4), .val (.ref b9), .val (.ref gO4), .val (.int 6), .val (.int 117)]) (pc' := 389) (hb hy at_387) rfl rfl rfl ?_
        refine o_goto W129 (pc' := 395) (hb hy at_389) (by decide) rfl ?_
        refine o_goto W129 (pc' := 503) (hb hy at_395) (by decide) rfl ?_
        refine o_aload W129 (pc' := 505) (hb hy at_503) rfl rfl rfl ?_
        refine o_static W129 (y := (⟨"com/example/sessn/sessn/session/Weights", "labelled", "(Ljava/lang/String;)Lcom/example/sessn/sessn/session/Weights;"⟩ : MethodName)) (w34 hw) (w35 hw) (w2 hw) (w36 hw) (by decide) (argsL := [(.ref b126)]) (CtrN.back (Wd := 0) W129 (rm3 l Z a0 hw gCS gO1 gO2 gO4 gO6 gO8 gO9 gO10 gO11 gO12 gO13 k_gO2 k_gO9 k_gO11 k_gO13 b126 t129 kb129 [(112 : Int32), (114 : Int32), (101 : Int32), (118 : Int32), (45 : Int32), (99 : Int32), (117 : Int32), (114 : Int32), (114 : Int32), (101 : Int32), (110 : Int32), (116 : Int32)] h129 W129.old SgO2__VALUES VgO2 XgO2 FitgO2 FgO1_label SgCS NgCS XgO8 FgO8_value FgO8_coder VgO9 X129 Fv129 Fc129 B129 ok128 (own_eqN (by simp)) FgO4_label XgO10 FgO10_value FgO10_coder VgO11 (own_eqne _) FgO6_label XgO12 FgO12_value FgO12_coder VgO13 (own_eqN (by simp))) (w36 hw) (w2 hw) (by decide) (by decide)) (by rw [hml]; rfl) (lenOf pd3 rfl) (S := []) rfl (by exact Nat.le_of_eq rfl) (pc' := 508) (hb hy at_505) rfl (cells' := 9) (slots' := 64) rfl rfl (by decide) (by decide) (wy := []) (fun _ _ _ q => ⟨q.1, q.2.1⟩) all0 (fun _ _ => trivial) ?_
        intro v130 T130 h130 lo130 W130 K130 q130
        obtain rfl := q130.2.2
        show Gl _ _ _ _ _ _ _ _ [(.ref gO4)]
        refine o_aload W130 (pc' := 510) (hb hy at_508) rfl rfl rfl ?_
        refine o_acmpN W130 (pc' := 513) (hb hy at_510) rfl rfl (XT.aa_ne_f rfl) rfl ?_
        refine o_iconst W130 (v := 1) (pc' := 514) (hb hy at_513) rfl rfl ?_
        refine o_goto W130 (pc' := 518) (hb hy at_514) (by decide) rfl ?_
        exact o_retN W130 hlk (t := .boolean) hret (by simp) (z' := (1 : Int32)) (by decide) (hb hy at_518) (by decide) (by decide) rfl
      · refine o_irem W91 (v := 7) (pc' := 341) (hb hy at_340) (by decide) ek95 rfl ?_
        refine o_istore W91 (L' := #[.val (.int p0), .val (.int p1), .val (.int p2), .val (.int p3), .val (.int 1), .val (.int 0), .val (.int (p2 &&& (255 : Int32))), .val (.ref b1), .val (.ref b9), .val (.ref b22), .val (.ref b31), .val (.ref b32), .val (.ref b40), .unset, .unset, .val (.ref b9), .val (.ref gO4), .val (.int 7), .unset]) (pc' := 343) (hb hy at_341) rfl rfl ?_
        refine o_aload W91 (pc' := 345) (hb hy at_343) rfl rfl rfl ?_
        refine o_iload W91 (pc' := 347) (hb hy at_345) rfl rfl ?_
        refine o_caload W91 c94 (x := (114 : Int32)) (i := 7) (by decide) (by decide) (by decide) rfl (pc' := 348) (hb hy at_347) rfl ?_
        refine o_istore W91 (L' := #[.val (.int p0), .val (.int p1), .val (.int p2), .val (.int p3), .val (.int 1), .val (.int 0), .val (.int (p2 &&& (255 : Int32))), .val (.ref b1), .val (.ref b9), .val (.ref b22), .val (.ref b31), .val (.ref b32), .val (.ref b40), .unset, .unset, .val (.ref b9), .val (.ref gO4), .val (.int 7), .val (.int 114)]) (pc' := 350) (hb hy at_348) rfl rfl ?_
        refine o_iload W91 (pc' := 352) (hb hy at_350) rfl rfl ?_
        refine o_ifY W91 (pc' := 362) (hb hy at_352) (XT.i0_eq_t (by decide)) (by decide) rfl ?_
        refine o_new W91 (w5 hw) (w6 hw) (w7 hw) (fun _ _ => trivial) (pc' := 365) (hb hy at_362) rfl (cells' := 7) (slots' := 49) rfl rfl (by decide) (by decide) ?_
        intro b131 T131 h131 W131 E131 ge131 gz131 gb131 A131 D131
        have Fb131_coder : Fld Z h131 b131 "java/lang/String" "coder" "B" (.int 0) := D131 (Or.inr (w31 hw)) (ty := .byte) (by decide)
        have Fb131_value : Fld Z h131 b131 "java/lang/String" "value" "[B" .null := D131 (Or.inr (w33 hw)) (ty := (.array .byte)) (by decide)
        refine o_dup W131 (pc' := 366) (hb hy at_365) rfl rfl ?_
        refine o_aload W131 (pc' := 368) (hb hy at_366) rfl rfl rfl ?_
        have c132 := (c94.ext E131)
        have ok133 : own_ok [(112 : Int32), (114 : Int32), (101 : Int32), (118 : Int32), (45 : Int32), (99 : Int32), (117 : Int32), (114 : Int32), (114 : Int32), (101 : Int32), (110 : Int32), (116 : Int32)] := ⟨by simp only [List.mem_cons, List.not_mem_nil, or_false, forall_eq_or_imp, forall_eq, false_imp_iff, implies_true]; exact ⟨(by unfold own_b; decide), (by unfold own_b; decide), (by unfold own_b; decide), (by unfold own_b; decide), (by unfold own_b; decide), (by unfold own_b; decide), (by unfold own_b; decide), (by unfold own_b; decide), (by unfold own_b; decide), (by unfold own_b; decide), (by unfold own_b; decide), (by unfold own_b; decide)⟩, Nat.le_of_ble_eq_true rfl⟩
        refine o_special W131 (y := (⟨"java/lang/String", "<init>", "([C)V"⟩ : MethodName)) rfl (w8 hw) (w9 hw) (w10 hw) (by decide) (a := b131) (argsL := [(.ref b9)]) (StrChars.Road.backV (W := 1) W131.2.2.2.1 (own_hV hw) (kI := 4) (w6 hw) (cs := [(112 : Int32), (114 : Int32), (101 : Int32), (118 : Int32), (45 : Int32), (99 : Int32), (117 : Int32), (114 : Int32), (114 : Int32), (101 : Int32), (110 : Int32), (116 : Int32)]) (bs := [((112 : Int32)).toInt8.toInt32, ((114 : Int32)).toInt8.toInt32, ((101 : Int32)).toInt8.toInt32, ((118 : Int32)).toInt8.toInt32, ((45 : Int32)).toInt8.toInt32, ((99 : Int32)).toInt8.toInt32, ((117 : Int32)).toInt8.toInt32, ((114 : Int32)).toInt8.toInt32, ((114 : Int32)).toInt8.toInt32, ((101 : Int32)).toInt8.toInt32, ((110 : Int32)).toInt8.toInt32, ((116 : Int32)).toInt8.toInt32]) (n := 12) (n0 := Z.heap.size) gz131 W131.zs A131 Fb131_value Fb131_coder c132 (SgCS.ext W131.ox) NgCS rfl rfl (by decide) (by decide) ok133.1 rfl (by decide) (by decide)) (by rw [hml]; rfl) (lenOf pd0 rfl) (S := [(.ref b131)]) rfl (by exact Nat.le_of_eq rfl) (pc' := 371) (hb hy at_368) rfl (cells' := 8) (slots' := 61) rfl rfl (by decide) (by decide) (wy := [b131]) (fun _ _ _ q => ⟨q.2.1, q.2.2.1⟩) (allS ⟨gz131, (Or.inr gb131)⟩ all0) (fun _ _ => trivial) ?_
        intro v134 T134 h134 lo134 W134 K134 q134
        obtain ⟨rfl, -, -, X134, Fc134, t134, kb134, gz134, ge134, -, Fv134, A134⟩ := q134
        have B134 : Arv Z h134 t134 kb134 .byte (12 : Int32) [(.int (StrChars.lo8 (112 : Int32))), (.int (StrChars.lo8 (114 : Int32))), (.int (StrChars.lo8 (101 : Int32))), (.int (StrChars.lo8 (118 : Int32))), (.int (StrChars.lo8 (45 : Int32))), (.int (StrChars.lo8 (99 : Int32))), (.int (StrChars.lo8 (117 : Int32))), (.int (StrChars.lo8 (114 : Int32))), (.int (StrChars.lo8 (114 : Int32))), (.int (StrChars.lo8 (101 : Int32))), (.int (StrChars.lo8 (110 : Int32))), (.int (StrChars.lo8 (116 : Int32)))] (.int 0) := A134
        show Gl _ _ _ _ _ _ _ _ [(.ref b131)]
        refine o_astore W134 (L' := #[.val (.int p0), .val (.int p1), .val (.int p2), .val (.int p3), .val (.int 1), .val (.int 0), .val (.int (p2 &&& (255 : Int32))), .val (.ref b1), .val (.ref b9), .val (.ref b22), .val (.ref b31), .val (.ref b32), .val (.ref b40), .val (.ref b131), .unset, .val (.ref b9), .val (.ref gO4), .val (.int 7), .val (.int 114)]) (pc' := 373) (hb hy at_371) rfl rfl rfl ?_
        refine o_iload W134 (pc' := 375) (hb hy at_373) rfl rfl ?_
        refine o_ifY W134 (pc' := 385) (hb hy at_375) (XT.i0_eq_t (by decide)) (by decide) rfl ?_
        refine o_aload W134 (pc' := 387) (hb hy at_385) rfl rfl rfl ?_
        refine o_astore W134 (L' := #[.val (.int p0), .val (.int p1), .val (.int p2), .val (.int p3), .val (.int 1), .val (.int 0), .val (.int (p2 &&& (255 : Int32))), .val (.ref b1), .val (.ref b9), .val (.ref b22), .val (.ref b31), .val (.ref b32), .val (.ref b40), .val (.ref b131), .val (.ref gO4), .val (.ref b9), .val (.ref gO4), .val (.int 7), .val (.int 114)]) (pc' := 389) (hb hy at_387) rfl rfl rfl ?_
        refine o_goto W134 (pc' := 395) (hb hy at_389) (by decide) rfl ?_
        refine o_goto W134 (pc' := 503) (hb hy at_395) (by decide) rfl ?_
        refine o_aload W134 (pc' := 505) (hb hy at_503) rfl rfl rfl ?_
        refine o_static W134 (y := (⟨"com/example/sessn/sessn/session/Weights", "labelled", "(Ljava/lang/String;)Lcom/example/sessn/sessn/session/Weights;"⟩ : MethodName)) (w34 hw) (w35 hw) (w2 hw) (w36 hw) (by decide) (argsL := [(.ref b131)]) (CtrN.back (Wd := 0) W134 (rm3 l Z a0 hw gCS gO1 gO2 gO4 gO6 gO8 gO9 gO10 gO11 gO12 gO13 k_gO2 k_gO9 k_gO11 k_gO13 b131 t134 kb134 [(112 : Int32), (114 : Int32), (101 : Int32), (118 : Int32), (45 : Int32), (99 : Int32), (117 : Int32), (114 : Int32), (114 : Int32), (101 : Int32), (110 : Int32), (116 : Int32)] h134 W134.old SgO2__VALUES VgO2 XgO2 FitgO2 FgO1_label SgCS NgCS XgO8 FgO8_value FgO8_coder VgO9 X134 Fv134 Fc134 B134 ok133 (own_eqN (by simp)) FgO4_label XgO10 FgO10_value FgO10_coder VgO11 (own_eqne _) FgO6_label XgO12 FgO12_value FgO12_coder VgO13 (own_eqN (by simp))) (w36 hw) (w2 hw) (by decide) (by decide)) (by rw [hml]; rfl) (lenOf pd3 rfl) (S := []) rfl (by exact Nat.le_of_eq rfl) (pc' := 508) (hb hy at_505) rfl (cells' := 9) (slots' := 64) rfl rfl (by decide) (by decide) (wy := []) (fun _ _ _ q => ⟨q.1, q.2.1⟩) all0 (fun _ _ => trivial) ?_
        intro v135 T135 h135 lo135 W135 K135 q135
        obtain rfl := q135.2.2
        show Gl _ _ _ _ _ _ _ _ [(.ref gO4)]
        refine o_aload W135 (pc' := 510) (hb hy at_508) rfl rfl rfl ?_
        refine o_acmpN W135 (pc' := 513) (hb hy at_510) rfl rfl (XT.aa_ne_f rfl) rfl ?_
        refine o_iconst W135 (v := 1) (pc' := 514) (hb hy at_513) rfl rfl ?_
        refine o_goto W135 (pc' := 518) (hb hy at_514) (by decide) rfl ?_
        exact o_retN W135 hlk (t := .boolean) hret (by simp) (z' := (1 : Int32)) (by decide) (hb hy at_518) (by decide) (by decide) rfl
      · refine o_irem W91 (v := 8) (pc' := 341) (hb hy at_340) (by decide) ek95 rfl ?_
        refine o_istore W91 (L' := #[.val (.int p0), .val (.int p1), .val (.int p2), .val (.int p3), .val (.int 1), .val (.int 0), .val (.int (p2 &&& (255 : Int32))), .val (.ref b1), .val (.ref b9), .val (.ref b22), .val (.ref b31), .val (.ref b32), .val (.ref b40), .unset, .unset, .val (.ref b9), .val (.ref gO4), .val (.int 8), .unset]) (pc' := 343) (hb hy at_341) rfl rfl ?_
        refine o_aload W91 (pc' := 345) (hb hy at_343) rfl rfl rfl ?_
        refine o_iload W91 (pc' := 347) (hb hy at_345) rfl rfl ?_
        refine o_caload W91 c94 (x := (114 : Int32)) (i := 8) (by decide) (by decide) (by decide) rfl (pc' := 348) (hb hy at_347) rfl ?_
        refine o_istore W91 (L' := #[.val (.int p0), .val (.int p1), .val (.int p2), .val (.int p3), .val (.int 1), .val (.int 0), .val (.int (p2 &&& (255 : Int32))), .val (.ref b1), .val (.ref b9), .val (.ref b22), .val (.ref b31), .val (.ref b32), .val (.ref b40), .unset, .unset, .val (.ref b9), .val (.ref gO4), .val (.int 8), .val (.int 114)]) (pc' := 350) (hb hy at_348) rfl rfl ?_
        refine o_iload W91 (pc' := 352) (hb hy at_350) rfl rfl ?_
        refine o_ifY W91 (pc' := 362) (hb hy at_352) (XT.i0_eq_t (by decide)) (by decide) rfl ?_
        refine o_new W91 (w5 hw) (w6 hw) (w7 hw) (fun _ _ => trivial) (pc' := 365) (hb hy at_362) rfl (cells' := 7) (slots' := 49) rfl rfl (by decide) (by decide) ?_
        intro b136 T136 h136 W136 E136 ge136 gz136 gb136 A136 D136
        have Fb136_coder : Fld Z h136 b136 "java/lang/String" "coder" "B" (.int 0) := D136 (Or.inr (w31 hw)) (ty := .byte) (by decide)
        have Fb136_value : Fld Z h136 b136 "java/lang/String" "value" "[B" .null := D136 (Or.inr (w33 hw)) (ty := (.array .byte)) (by decide)
        refine o_dup W136 (pc' := 366) (hb hy at_365) rfl rfl ?_
        refine o_aload W136 (pc' := 368) (hb hy at_366) rfl rfl rfl ?_
        have c137 := (c94.ext E136)
        have ok138 : own_ok [(112 : Int32), (114 : Int32), (101 : Int32), (118 : Int32), (45 : Int32), (99 : Int32), (117 : Int32), (114 : Int32), (114 : Int32), (101 : Int32), (110 : Int32), (116 : Int32)] := ⟨by simp only [List.mem_cons, List.not_mem_nil, or_false, forall_eq_or_imp, forall_eq, false_imp_iff, implies_true]; exact ⟨(by unfold own_b; decide), (by unfold own_b; decide), (by unfold own_b; decide), (by unfold own_b; decide), (by unfold own_b; decide), (by unfold own_b; decide), (by unfold own_b; decide), (by unfold own_b; decide), (by unfold own_b; decide), (by unfold own_b; decide), (by unfold own_b; decide), (by unfold own_b; decide)⟩, Nat.le_of_ble_eq_true rfl⟩
        refine o_special W136 (y := (⟨"java/lang/String", "<init>", "([C)V"⟩ : MethodName)) rfl (w8 hw) (w9 hw) (w10 hw) (by decide) (a := b136) (argsL := [(.ref b9)]) (StrChars.Road.backV (W := 1) W136.2.2.2.1 (own_hV hw) (kI := 4) (w6 hw) (cs := [(112 : Int32), (114 : Int32), (101 : Int32), (118 : Int32), (45 : Int32), (99 : Int32), (117 : Int32), (114 : Int32), (114 : Int32), (101 : Int32), (110 : Int32), (116 : Int32)]) (bs := [((112 : Int32)).toInt8.toInt32, ((114 : Int32)).toInt8.toInt32, ((101 : Int32)).toInt8.toInt32, ((118 : Int32)).toInt8.toInt32, ((45 : Int32)).toInt8.toInt32, ((99 : Int32)).toInt8.toInt32, ((117 : Int32)).toInt8.toInt32, ((114 : Int32)).toInt8.toInt32, ((114 : Int32)).toInt8.toInt32, ((101 : Int32)).toInt8.toInt32, ((110 : Int32)).toInt8.toInt32, ((116 : Int32)).toInt8.toInt32]) (n := 12) (n0 := Z.heap.size) gz136 W136.zs A136 Fb136_value Fb136_coder c137 (SgCS.ext W136.ox) NgCS rfl rfl (by decide) (by decide) ok138.1 rfl (by decide) (by decide)) (by rw [hml]; rfl) (lenOf pd0 rfl) (S := [(.ref b136)]) rfl (by exact Nat.le_of_eq rfl) (pc' := 371) (hb hy at_368) rfl (cells' := 8) (slots' := 61) rfl rfl (by decide) (by decide) (wy := [b136]) (fun _ _ _ q => ⟨q.2.1, q.2.2.1⟩) (allS ⟨gz136, (Or.inr gb136)⟩ all0) (fun _ _ => trivial) ?_
        intro v139 T139 h139 lo139 W139 K139 q139
        obtain ⟨rfl, -, -, X139, Fc139, t139, kb139, gz139, ge139, -, Fv139, A139⟩ := q139
        have B139 : Arv Z h139 t139 kb139 .byte (12 : Int32) [(.int (StrChars.lo8 (112 : Int32))), (.int (StrChars.lo8 (114 : Int32))), (.int (StrChars.lo8 (101 : Int32))), (.int (StrChars.lo8 (118 : Int32))), (.int (StrChars.lo8 (45 : Int32))), (.int (StrChars.lo8 (99 : Int32))), (.int (StrChars.lo8 (117 : Int32))), (.int (StrChars.lo8 (114 : Int32))), (.int (StrChars.lo8 (114 : Int32))), (.int (StrChars.lo8 (101 : Int32))), (.int (StrChars.lo8 (110 : Int32))), (.int (StrChars.lo8 (116 : Int32)))] (.int 0) := A139
        show Gl _ _ _ _ _ _ _ _ [(.ref b136)]
        refine o_astore W139 (L' := #[.val (.int p0), .val (.int p1), .val (.int p2), .val (.int p3), .val (.int 1), .val (.int 0), .val (.int (p2 &&& (255 : Int32))), .val (.ref b1), .val (.ref b9), .val (.ref b22), .val (.ref b31), .val (.ref b32), .val (.ref b40), .val (.ref b136), .unset, .val (.ref b9), .val (.ref gO4), .val (.int 8), .val (.int 114)]) (pc' := 373) (hb hy at_371) rfl rfl rfl ?_
        refine o_iload W139 (pc' := 375) (hb hy at_373) rfl rfl ?_
        refine o_ifY W139 (pc' := 385) (hb hy at_375) (XT.i0_eq_t (by decide)) (by decide) rfl ?_
        refine o_aload W139 (pc' := 387) (hb hy at_385) rfl rfl rfl ?_
        refine o_astore W139 (L' := #[.val (.int p0), .val (.int p1), .val (.int p2), .val (.int p3), .val (.int 1), .val (.int 0), .val (.int (p2 &&& (255 : Int32))), .val (.ref b1), .val (.ref b9), .val (.ref b22), .val (.ref b31), .val (.ref b32), .val (.ref b40), .val (.ref b136), .val (.ref gO4), .val (.ref b9), .val (.ref gO4), .val (.int 8), .val (.int 114)]) (pc' := 389) (hb hy at_387) rfl rfl rfl ?_
        refine o_goto W139 (pc' := 395) (hb hy at_389) (by decide) rfl ?_
        refine o_goto W139 (pc' := 503) (hb hy at_395) (by decide) rfl ?_
        refine o_aload W139 (pc' := 505) (hb hy at_503) rfl rfl rfl ?_
        refine o_static W139 (y := (⟨"com/example/sessn/sessn/session/Weights", "labelled", "(Ljava/lang/String;)Lcom/example/sessn/sessn/session/Weights;"⟩ : MethodName)) (w34 hw) (w35 hw) (w2 hw) (w36 hw) (by decide) (argsL := [(.ref b136)]) (CtrN.back (Wd := 0) W139 (rm3 l Z a0 hw gCS gO1 gO2 gO4 gO6 gO8 gO9 gO10 gO11 gO12 gO13 k_gO2 k_gO9 k_gO11 k_gO13 b136 t139 kb139 [(112 : Int32), (114 : Int32), (101 : Int32), (118 : Int32), (45 : Int32), (99 : Int32), (117 : Int32), (114 : Int32), (114 : Int32), (101 : Int32), (110 : Int32), (116 : Int32)] h139 W139.old SgO2__VALUES VgO2 XgO2 FitgO2 FgO1_label SgCS NgCS XgO8 FgO8_value FgO8_coder VgO9 X139 Fv139 Fc139 B139 ok138 (own_eqN (by simp)) FgO4_label XgO10 FgO10_value FgO10_coder VgO11 (own_eqne _) FgO6_label XgO12 FgO12_value FgO12_coder VgO13 (own_eqN (by simp))) (w36 hw) (w2 hw) (by decide) (by decide)) (by rw [hml]; rfl) (lenOf pd3 rfl) (S := []) rfl (by exact Nat.le_of_eq rfl) (pc' := 508) (hb hy at_505) rfl (cells' := 9) (slots' := 64) rfl rfl (by decide) (by decide) (wy := []) (fun _ _ _ q => ⟨q.1, q.2.1⟩) all0 (fun _ _ => trivial) ?_
        intro v140 T140 h140 lo140 W140 K140 q140
        obtain rfl := q140.2.2
        show Gl _ _ _ _ _ _ _ _ [(.ref gO4)]
        refine o_aload W140 (pc' := 510) (hb hy at_508) rfl rfl rfl ?_
        refine o_acmpN W140 (pc' := 513) (hb hy at_510) rfl rfl (XT.aa_ne_f rfl) rfl ?_
        refine o_iconst W140 (v := 1) (pc' := 514) (hb hy at_513) rfl rfl ?_
        refine o_goto W140 (pc' := 518) (hb hy at_514) (by decide) rfl ?_
        exact o_retN W140 hlk (t := .boolean) hret (by simp) (z' := (1 : Int32)) (by decide) (hb hy at_518) (by decide) (by decide) rfl
      · refine o_irem W91 (v := 9) (pc' := 341) (hb hy at_340) (by decide) ek95 rfl ?_
        refine o_istore W91 (L' := #[.val (.int p0), .val (.int p1), .val (.int p2), .val (.int p3), .val (.int 1), .val (.int 0), .val (.int (p2 &&& (255 : Int32))), .val (.ref b1), .val (.ref b9), .val (.ref b22), .val (.ref b31), .val (.ref b32), .val (.ref b40), .unset, .unset, .val (.ref b9), .val (.ref gO4), .val (.int 9), .unset]) (pc' := 343) (hb hy at_341) rfl rfl ?_
        refine o_aload W91 (pc' := 345) (hb hy at_343) rfl rfl rfl ?_
        refine o_iload W91 (pc' := 347) (hb hy at_345) rfl rfl ?_
        refine o_caload W91 c94 (x := (101 : Int32)) (i := 9) (by decide) (by decide) (by decide) rfl (pc' := 348) (hb hy at_347) rfl ?_
        refine o_istore W91 (L' := #[.val (.int p0), .val (.int p1), .val (.int p2), .val (.int p3), .val (.int 1), .val (.int 0), .val (.int (p2 &&& (255 : Int32))), .val (.ref b1), .val (.ref b9), .val (.ref b22), .val (.ref b31), .val (.ref b32), .val (.ref b40), .unset, .unset, .val (.ref b9), .val (.ref gO4), .val (.int 9), .val (.int 101)]) (pc' := 350) (hb hy at_348) rfl rfl ?_
        refine o_iload W91 (pc' := 352) (hb hy at_350) rfl rfl ?_
        refine o_ifY W91 (pc' := 362) (hb hy at_352) (XT.i0_eq_t (by decide)) (by decide) rfl ?_
        refine o_new W91 (w5 hw) (w6 hw) (w7 hw) (fun _ _ => trivial) (pc' := 365) (hb hy at_362) rfl (cells' := 7) (slots' := 49) rfl rfl (by decide) (by decide) ?_
        intro b141 T141 h141 W141 E141 ge141 gz141 gb141 A141 D141
        have Fb141_coder : Fld Z h141 b141 "java/lang/String" "coder" "B" (.int 0) := D141 (Or.inr (w31 hw)) (ty := .byte) (by decide)
        have Fb141_value : Fld Z h141 b141 "java/lang/String" "value" "[B" .null := D141 (Or.inr (w33 hw)) (ty := (.array .byte)) (by decide)
        refine o_dup W141 (pc' := 366) (hb hy at_365) rfl rfl ?_
        refine o_aload W141 (pc' := 368) (hb hy at_366) rfl rfl rfl ?_
        have c142 := (c94.ext E141)
        have ok143 : own_ok [(112 : Int32), (114 : Int32), (101 : Int32), (118 : Int32), (45 : Int32), (99 : Int32), (117 : Int32), (114 : Int32), (114 : Int32), (101 : Int32), (110 : Int32), (116 : Int32)] := ⟨by simp only [List.mem_cons, List.not_mem_nil, or_false, forall_eq_or_imp, forall_eq, false_imp_iff, implies_true]; exact ⟨(by unfold own_b; decide), (by unfold own_b; decide), (by unfold own_b; decide), (by unfold own_b; decide), (by unfold own_b; decide), (by unfold own_b; decide), (by unfold own_b; decide), (by unfold own_b; decide), (by unfold own_b; decide), (by unfold own_b; decide), (by unfold own_b; decide), (by unfold own_b; decide)⟩, Nat.le_of_ble_eq_true rfl⟩
        refine o_special W141 (y := (⟨"java/lang/String", "<init>", "([C)V"⟩ : MethodName)) rfl (w8 hw) (w9 hw) (w10 hw) (by decide) (a := b141) (argsL := [(.ref b9)]) (StrChars.Road.backV (W := 1) W141.2.2.2.1 (own_hV hw) (kI := 4) (w6 hw) (cs := [(112 : Int32), (114 : Int32), (101 : Int32), (118 : Int32), (45 : Int32), (99 : Int32), (117 : Int32), (114 : Int32), (114 : Int32), (101 : Int32), (110 : Int32), (116 : Int32)]) (bs := [((112 : Int32)).toInt8.toInt32, ((114 : Int32)).toInt8.toInt32, ((101 : Int32)).toInt8.toInt32, ((118 : Int32)).toInt8.toInt32, ((45 : Int32)).toInt8.toInt32, ((99 : Int32)).toInt8.toInt32, ((117 : Int32)).toInt8.toInt32, ((114 : Int32)).toInt8.toInt32, ((114 : Int32)).toInt8.toInt32, ((101 : Int32)).toInt8.toInt32, ((110 : Int32)).toInt8.toInt32, ((116 : Int32)).toInt8.toInt32]) (n := 12) (n0 := Z.heap.size) gz141 W141.zs A141 Fb141_value Fb141_coder c142 (SgCS.ext W141.ox) NgCS rfl rfl (by decide) (by decide) ok143.1 rfl (by decide) (by decide)) (by rw [hml]; rfl) (lenOf pd0 rfl) (S := [(.ref b141)]) rfl (by exact Nat.le_of_eq rfl) (pc' := 371) (hb hy at_368) rfl (cells' := 8) (slots' := 61) rfl rfl (by decide) (by decide) (wy := [b141]) (fun _ _ _ q => ⟨q.2.1, q.2.2.1⟩) (allS ⟨gz141, (Or.inr gb141)⟩ all0) (fun _ _ => trivial) ?_
        intro v144 T144 h144 lo144 W144 K144 q144
        obtain ⟨rfl, -, -, X144, Fc144, t144, kb144, gz144, ge144, -, Fv144, A144⟩ := q144
        have B144 : Arv Z h144 t144 kb144 .byte (12 : Int32) [(.int (StrChars.lo8 (112 : Int32))), (.int (StrChars.lo8 (114 : Int32))), (.int (StrChars.lo8 (101 : Int32))), (.int (StrChars.lo8 (118 : Int32))), (.int (StrChars.lo8 (45 : Int32))), (.int (StrChars.lo8 (99 : Int32))), (.int (StrChars.lo8 (117 : Int32))), (.int (StrChars.lo8 (114 : Int32))), (.int (StrChars.lo8 (114 : Int32))), (.int (StrChars.lo8 (101 : Int32))), (.int (StrChars.lo8 (110 : Int32))), (.int (StrChars.lo8 (116 : Int32)))] (.int 0) := A144
        show Gl _ _ _ _ _ _ _ _ [(.ref b141)]
        refine o_astore W144 (L' := #[.val (.int p0), .val (.int p1), .val (.int p2), .val (.int p3), .val (.int 1), .val (.int 0), .val (.int (p2 &&& (255 : Int32))), .val (.ref b1), .val (.ref b9), .val (.ref b22), .val (.ref b31), .val (.ref b32), .val (.ref b40), .val (.ref b141), .unset, .val (.ref b9), .val (.ref gO4), .val (.int 9), .val (.int 101)]) (pc' := 373) (hb hy at_371) rfl rfl rfl ?_
        refine o_iload W144 (pc' := 375) (hb hy at_373) rfl rfl ?_
        refine o_ifY W144 (pc' := 385) (hb hy at_375) (XT.i0_eq_t (by decide)) (by decide) rfl ?_
        refine o_aload W144 (pc' := 387) (hb hy at_385) rfl rfl rfl ?_
        refine o_astore W144 (L' := #[.val (.int p0), .val (.int p1), .val (.int p2), .val (.int p3), .val (.int 1), .val (.int 0), .val (.int (p2 &&& (255 : Int32))), .val (.ref b1), .val (.ref b9), .val (.ref b22), .val (.ref b31), .val (.ref b32), .val (.ref b40), .val (.ref b141), .val (.ref gO4), .val (.ref b9), .val (.ref gO4), .val (.int 9), .val (.int 101)]) (pc' := 389) (hb hy at_387) rfl rfl rfl ?_
        refine o_goto W144 (pc' := 395) (hb hy at_389) (by decide) rfl ?_
        refine o_goto W144 (pc' := 503) (hb hy at_395) (by decide) rfl ?_
        refine o_aload W144 (pc' := 505) (hb hy at_503) rfl rfl rfl ?_
        refine o_static W144 (y := (⟨"com/example/sessn/sessn/session/Weights", "labelled", "(Ljava/lang/String;)Lcom/example/sessn/sessn/session/Weights;"⟩ : MethodName)) (w34 hw) (w35 hw) (w2 hw) (w36 hw) (by decide) (argsL := [(.ref b141)]) (CtrN.back (Wd := 0) W144 (rm3 l Z a0 hw gCS gO1 gO2 gO4 gO6 gO8 gO9 gO10 gO11 gO12 gO13 k_gO2 k_gO9 k_gO11 k_gO13 b141 t144 kb144 [(112 : Int32), (114 : Int32), (101 : Int32), (118 : Int32), (45 : Int32), (99 : Int32), (117 : Int32), (114 : Int32), (114 : Int32), (101 : Int32), (110 : Int32), (116 : Int32)] h144 W144.old SgO2__VALUES VgO2 XgO2 FitgO2 FgO1_label SgCS NgCS XgO8 FgO8_value FgO8_coder VgO9 X144 Fv144 Fc144 B144 ok143 (own_eqN (by simp)) FgO4_label XgO10 FgO10_value FgO10_coder VgO11 (own_eqne _) FgO6_label XgO12 FgO12_value FgO12_coder VgO13 (own_eqN (by simp))) (w36 hw) (w2 hw) (by decide) (by decide)) (by rw [hml]; rfl) (lenOf pd3 rfl) (S := []) rfl (by exact Nat.le_of_eq rfl) (pc' := 508) (hb hy at_505) rfl (cells' := 9) (slots' := 64) rfl rfl (by decide) (by decide) (wy := []) (fun _ _ _ q => ⟨q.1, q.2.1⟩) all0 (fun _ _ => trivial) ?_
        intro v145 T145 h145 lo145 W145 K145 q145
        obtain rfl := q145.2.2
        show Gl _ _ _ _ _ _ _ _ [(.ref gO4)]
        refine o_aload W145 (pc' := 510) (hb hy at_508) rfl rfl rfl ?_
        refine o_acmpN W145 (pc' := 513) (hb hy at_510) rfl rfl (XT.aa_ne_f rfl) rfl ?_
        refine o_iconst W145 (v := 1) (pc' := 514) (hb hy at_513) rfl rfl ?_
        refine o_goto W145 (pc' := 518) (hb hy at_514) (by decide) rfl ?_
        exact o_retN W145 hlk (t := .boolean) hret (by simp) (z' := (1 : Int32)) (by decide) (hb hy at_518) (by decide) (by decide) rfl
      · refine o_irem W91 (v := 10) (pc' := 341) (hb hy at_340) (by decide) ek95 rfl ?_
        refine o_istore W91 (L' := #[.val (.int p0), .val (.int p1), .val (.int p2), .val (.int p3), .val (.int 1), .val (.int 0), .val (.int (p2 &&& (255 : Int32))), .val (.ref b1), .val (.ref b9), .val (.ref b22), .val (.ref b31), .val (.ref b32), .val (.ref b40), .unset, .unset, .val (.ref b9), .val (.ref gO4), .val (.int 10), .unset]) (pc' := 343) (hb hy at_341) rfl rfl ?_
        refine o_aload W91 (pc' := 345) (hb hy at_343) rfl rfl rfl ?_
        refine o_iload W91 (pc' := 347) (hb hy at_345) rfl rfl ?_
        refine o_caload W91 c94 (x := (110 : Int32)) (i := 10) (by decide) (by decide) (by decide) rfl (pc' := 348) (hb hy at_347) rfl ?_
        refine o_istore W91 (L' := #[.val (.int p0), .val (.int p1), .val (.int p2), .val (.int p3), .val (.int 1), .val (.int 0), .val (.int (p2 &&& (255 : Int32))), .val (.ref b1), .val (.ref b9), .val (.ref b22), .val (.ref b31), .val (.ref b32), .val (.ref b40), .unset, .unset, .val (.ref b9), .val (.ref gO4), .val (.int 10), .val (.int 110)]) (pc' := 350) (hb hy at_348) rfl rfl ?_
        refine o_iload W91 (pc' := 352) (hb hy at_350) rfl rfl ?_
        refine o_ifY W91 (pc' := 362) (hb hy at_352) (XT.i0_eq_t (by decide)) (by decide) rfl ?_
        refine o_new W91 (w5 hw) (w6 hw) (w7 hw) (fun _ _ => trivial) (pc' := 365) (hb hy at_362) rfl (cells' := 7) (slots' := 49) rfl rfl (by decide) (by decide) ?_
        intro b146 T146 h146 W146 E146 ge146 gz146 gb146 A146 D146
        have Fb146_coder : Fld Z h146 b146 "java/lang/String" "coder" "B" (.int 0) := D146 (Or.inr (w31 hw)) (ty := .byte) (by decide)
        have Fb146_value : Fld Z h146 b146 "java/lang/String" "value" "[B" .null := D146 (Or.inr (w33 hw)) (ty := (.array .byte)) (by decide)
        refine o_dup W146 (pc' := 366) (hb hy at_365) rfl rfl ?_
        refine o_aload W146 (pc' := 368) (hb hy at_366) rfl rfl rfl ?_
        have c147 := (c94.ext E146)
        have ok148 : own_ok [(112 : Int32), (114 : Int32), (101 : Int32), (118 : Int32), (45 : Int32), (99 : Int32), (117 : Int32), (114 : Int32), (114 : Int32), (101 : Int32), (110 : Int32), (116 : Int32)] := ⟨by simp only [List.mem_cons, List.not_mem_nil, or_false, forall_eq_or_imp, forall_eq, false_imp_iff, implies_true]; exact ⟨(by unfold own_b; decide), (by unfold own_b; decide), (by unfold own_b; decide), (by unfold own_b; decide), (by unfold own_b; decide), (by unfold own_b; decide), (by unfold own_b; decide), (by unfold own_b; decide), (by unfold own_b; decide), (by unfold own_b; decide), (by unfold own_b; decide), (by unfold own_b; decide)⟩, Nat.le_of_ble_eq_true rfl⟩
        refine o_special W146 (y := (⟨"java/lang/String", "<init>", "([C)V"⟩ : MethodName)) rfl (w8 hw) (w9 hw) (w10 hw) (by decide) (a := b146) (argsL := [(.ref b9)]) (StrChars.Road.backV (W := 1) W146.2.2.2.1 (own_hV hw) (kI := 4) (w6 hw) (cs := [(112 : Int32), (114 : Int32), (101 : Int32), (118 : Int32), (45 : Int32), (99 : Int32), (117 : Int32), (114 : Int32), (114 : Int32), (101 : Int32), (110 : Int32), (116 : Int32)]) (bs := [((112 : Int32)).toInt8.toInt32, ((114 : Int32)).toInt8.toInt32, ((101 : Int32)).toInt8.toInt32, ((118 : Int32)).toInt8.toInt32, ((45 : Int32)).toInt8.toInt32, ((99 : Int32)).toInt8.toInt32, ((117 : Int32)).toInt8.toInt32, ((114 : Int32)).toInt8.toInt32, ((114 : Int32)).toInt8.toInt32, ((101 : Int32)).toInt8.toInt32, ((110 : Int32)).toInt8.toInt32, ((116 : Int32)).toInt8.toInt32]) (n := 12) (n0 := Z.heap.size) gz146 W146.zs A146 Fb146_value Fb146_coder c147 (SgCS.ext W146.ox) NgCS rfl rfl (by decide) (by decide) ok148.1 rfl (by decide) (by decide)) (by rw [hml]; rfl) (lenOf pd0 rfl) (S := [(.ref b146)]) rfl (by exact Nat.le_of_eq rfl) (pc' := 371) (hb hy at_368) rfl (cells' := 8) (slots' := 61) rfl rfl (by decide) (by decide) (wy := [b146]) (fun _ _ _ q => ⟨q.2.1, q.2.2.1⟩) (allS ⟨gz146, (Or.inr gb146)⟩ all0) (fun _ _ => trivial) ?_
        intro v149 T149 h149 lo149 W149 K149 q149
        obtain ⟨rfl, -, -, X149, Fc149, t149, kb149, gz149, ge149, -, Fv149, A149⟩ := q149
        have B149 : Arv Z h149 t149 kb149 .byte (12 : Int32) [(.int (StrChars.lo8 (112 : Int32))), (.int (StrChars.lo8 (114 : Int32))), (.int (StrChars.lo8 (101 : Int32))), (.int (StrChars.lo8 (118 : Int32))), (.int (StrChars.lo8 (45 : Int32))), (.int (StrChars.lo8 (99 : Int32))), (.int (StrChars.lo8 (117 : Int32))), (.int (StrChars.lo8 (114 : Int32))), (.int (StrChars.lo8 (114 : Int32))), (.int (StrChars.lo8 (101 : Int32))), (.int (StrChars.lo8 (110 : Int32))), (.int (StrChars.lo8 (116 : Int32)))] (.int 0) := A149
        show Gl _ _ _ _ _ _ _ _ [(.ref b146)]
        refine o_astore W149 (L' := #[.val (.int p0), .val (.int p1), .val (.int p2), .val (.int p3), .val (.int 1), .val (.int 0), .val (.int (p2 &&& (255 : Int32))), .val (.ref b1), .val (.ref b9), .val (.ref b22), .val (.ref b31), .val (.ref b32), .val (.ref b40), .val (.ref b146), .unset, .val (.ref b9), .val (.ref gO4), .val (.int 10), .val (.int 110)]) (pc' := 373) (hb hy at_371) rfl rfl rfl ?_
        refine o_iload W149 (pc' := 375) (hb hy at_373) rfl rfl ?_
        refine o_ifY W149 (pc' := 385) (hb hy at_375) (XT.i0_eq_t (by decide)) (by decide) rfl ?_
        refine o_aload W149 (pc' := 387) (hb hy at_385) rfl rfl rfl ?_
        refine o_astore W149 (L' := #[.val (.int p0), .val (.int p1), .val (.int p2), .val (.int p3), .val (.int 1), .val (.int 0), .val (.int (p2 &&& (255 : Int32))), .val (.ref b1), .val (.ref b9), .val (.ref b22), .val (.ref b31), .val (.ref b32), .val (.ref b40), .val (.ref b146), .val (.ref gO4), .val (.ref b9), .val (.ref gO4), .val (.int 10), .val (.int 110)]) (pc' := 389) (hb hy at_387) rfl rfl rfl ?_
        refine o_goto W149 (pc' := 395) (hb hy at_389) (by decide) rfl ?_
        refine o_goto W149 (pc' := 503) (hb hy at_395) (by decide) rfl ?_
        refine o_aload W149 (pc' := 505) (hb hy at_503) rfl rfl rfl ?_
        refine o_static W149 (y := (⟨"com/example/sessn/sessn/session/Weights", "labelled", "(Ljava/lang/String;)Lcom/example/sessn/sessn/session/Weights;"⟩ : MethodName)) (w34 hw) (w35 hw) (w2 hw) (w36 hw) (by decide) (argsL := [(.ref b146)]) (CtrN.back (Wd := 0) W149 (rm3 l Z a0 hw gCS gO1 gO2 gO4 gO6 gO8 gO9 gO10 gO11 gO12 gO13 k_gO2 k_gO9 k_gO11 k_gO13 b146 t149 kb149 [(112 : Int32), (114 : Int32), (101 : Int32), (118 : Int32), (45 : Int32), (99 : Int32), (117 : Int32), (114 : Int32), (114 : Int32), (101 : Int32), (110 : Int32), (116 : Int32)] h149 W149.old SgO2__VALUES VgO2 XgO2 FitgO2 FgO1_label SgCS NgCS XgO8 FgO8_value FgO8_coder VgO9 X149 Fv149 Fc149 B149 ok148 (own_eqN (by simp)) FgO4_label XgO10 FgO10_value FgO10_coder VgO11 (own_eqne _) FgO6_label XgO12 FgO12_value FgO12_coder VgO13 (own_eqN (by simp))) (w36 hw) (w2 hw) (by decide) (by decide)) (by rw [hml]; rfl) (lenOf pd3 rfl) (S := []) rfl (by exact Nat.le_of_eq rfl) (pc' := 508) (hb hy at_505) rfl (cells' := 9) (slots' := 64) rfl rfl (by decide) (by decide) (wy := []) (fun _ _ _ q => ⟨q.1, q.2.1⟩) all0 (fun _ _ => trivial) ?_
        intro v150 T150 h150 lo150 W150 K150 q150
        obtain rfl := q150.2.2
        show Gl _ _ _ _ _ _ _ _ [(.ref gO4)]
        refine o_aload W150 (pc' := 510) (hb hy at_508) rfl rfl rfl ?_
        refine o_acmpN W150 (pc' := 513) (hb hy at_510) rfl rfl (XT.aa_ne_f rfl) rfl ?_
        refine o_iconst W150 (v := 1) (pc' := 514) (hb hy at_513) rfl rfl ?_
        refine o_goto W150 (pc' := 518) (hb hy at_514) (by decide) rfl ?_
        exact o_retN W150 hlk (t := .boolean) hret (by simp) (z' := (1 : Int32)) (by decide) (hb hy at_518) (by decide) (by decide) rfl
      · refine o_irem W91 (v := 11) (pc' := 341) (hb hy at_340) (by decide) ek95 rfl ?_
        refine o_istore W91 (L' := #[.val (.int p0), .val (.int p1), .val (.int p2), .val (.int p3), .val (.int 1), .val (.int 0), .val (.int (p2 &&& (255 : Int32))), .val (.ref b1), .val (.ref b9), .val (.ref b22), .val (.ref b31), .val (.ref b32), .val (.ref b40), .unset, .unset, .val (.ref b9), .val (.ref gO4), .val (.int 11), .unset]) (pc' := 343) (hb hy at_341) rfl rfl ?_
        refine o_aload W91 (pc' := 345) (hb hy at_343) rfl rfl rfl ?_
        refine o_iload W91 (pc' := 347) (hb hy at_345) rfl rfl ?_
        refine o_caload W91 c94 (x := (116 : Int32)) (i := 11) (by decide) (by decide) (by decide) rfl (pc' := 348) (hb hy at_347) rfl ?_
        refine o_istore W91 (L' := #[.val (.int p0), .val (.int p1), .val (.int p2), .val (.int p3), .val (.int 1), .val (.int 0), .val (.int (p2 &&& (255 : Int32))), .val (.ref b1), .val (.ref b9), .val (.ref b22), .val (.ref b31), .val (.ref b32), .val (.ref b40), .unset, .unset, .val (.ref b9), .val (.ref gO4), .val (.int 11), .val (.int 116)]) (pc' := 350) (hb hy at_348) rfl rfl ?_
        refine o_iload W91 (pc' := 352) (hb hy at_350) rfl rfl ?_
        refine o_ifY W91 (pc' := 362) (hb hy at_352) (XT.i0_eq_t (by decide)) (by decide) rfl ?_
        refine o_new W91 (w5 hw) (w6 hw) (w7 hw) (fun _ _ => trivial) (pc' := 365) (hb hy at_362) rfl (cells' := 7) (slots' := 49) rfl rfl (by decide) (by decide) ?_
        intro b151 T151 h151 W151 E151 ge151 gz151 gb151 A151 D151
        have Fb151_coder : Fld Z h151 b151 "java/lang/String" "coder" "B" (.int 0) := D151 (Or.inr (w31 hw)) (ty := .byte) (by decide)
        have Fb151_value : Fld Z h151 b151 "java/lang/String" "value" "[B" .null := D151 (Or.inr (w33 hw)) (ty := (.array .byte)) (by decide)
        refine o_dup W151 (pc' := 366) (hb hy at_365) rfl rfl ?_
        refine o_aload W151 (pc' := 368) (hb hy at_366) rfl rfl rfl ?_
        have c152 := (c94.ext E151)
        have ok153 : own_ok [(112 : Int32), (114 : Int32), (101 : Int32), (118 : Int32), (45 : Int32), (99 : Int32), (117 : Int32), (114 : Int32), (114 : Int32), (101 : Int32), (110 : Int32), (116 : Int32)] := ⟨by simp only [List.mem_cons, List.not_mem_nil, or_false, forall_eq_or_imp, forall_eq, false_imp_iff, implies_true]; exact ⟨(by unfold own_b; decide), (by unfold own_b; decide), (by unfold own_b; decide), (by unfold own_b; decide), (by unfold own_b; decide), (by unfold own_b; decide), (by unfold own_b; decide), (by unfold own_b; decide), (by unfold own_b; decide), (by unfold own_b; decide), (by unfold own_b; decide), (by unfold own_b; decide)⟩, Nat.le_of_ble_eq_true rfl⟩
        refine o_special W151 (y := (⟨"java/lang/String", "<init>", "([C)V"⟩ : MethodName)) rfl (w8 hw) (w9 hw) (w10 hw) (by decide) (a := b151) (argsL := [(.ref b9)]) (StrChars.Road.backV (W := 1) W151.2.2.2.1 (own_hV hw) (kI := 4) (w6 hw) (cs := [(112 : Int32), (114 : Int32), (101 : Int32), (118 : Int32), (45 : Int32), (99 : Int32), (117 : Int32), (114 : Int32), (114 : Int32), (101 : Int32), (110 : Int32), (116 : Int32)]) (bs := [((112 : Int32)).toInt8.toInt32, ((114 : Int32)).toInt8.toInt32, ((101 : Int32)).toInt8.toInt32, ((118 : Int32)).toInt8.toInt32, ((45 : Int32)).toInt8.toInt32, ((99 : Int32)).toInt8.toInt32, ((117 : Int32)).toInt8.toInt32, ((114 : Int32)).toInt8.toInt32, ((114 : Int32)).toInt8.toInt32, ((101 : Int32)).toInt8.toInt32, ((110 : Int32)).toInt8.toInt32, ((116 : Int32)).toInt8.toInt32]) (n := 12) (n0 := Z.heap.size) gz151 W151.zs A151 Fb151_value Fb151_coder c152 (SgCS.ext W151.ox) NgCS rfl rfl (by decide) (by decide) ok153.1 rfl (by decide) (by decide)) (by rw [hml]; rfl) (lenOf pd0 rfl) (S := [(.ref b151)]) rfl (by exact Nat.le_of_eq rfl) (pc' := 371) (hb hy at_368) rfl (cells' := 8) (slots' := 61) rfl rfl (by decide) (by decide) (wy := [b151]) (fun _ _ _ q => ⟨q.2.1, q.2.2.1⟩) (allS ⟨gz151, (Or.inr gb151)⟩ all0) (fun _ _ => trivial) ?_
        intro v154 T154 h154 lo154 W154 K154 q154
        obtain ⟨rfl, -, -, X154, Fc154, t154, kb154, gz154, ge154, -, Fv154, A154⟩ := q154
        have B154 : Arv Z h154 t154 kb154 .byte (12 : Int32) [(.int (StrChars.lo8 (112 : Int32))), (.int (StrChars.lo8 (114 : Int32))), (.int (StrChars.lo8 (101 : Int32))), (.int (StrChars.lo8 (118 : Int32))), (.int (StrChars.lo8 (45 : Int32))), (.int (StrChars.lo8 (99 : Int32))), (.int (StrChars.lo8 (117 : Int32))), (.int (StrChars.lo8 (114 : Int32))), (.int (StrChars.lo8 (114 : Int32))), (.int (StrChars.lo8 (101 : Int32))), (.int (StrChars.lo8 (110 : Int32))), (.int (StrChars.lo8 (116 : Int32)))] (.int 0) := A154
        show Gl _ _ _ _ _ _ _ _ [(.ref b151)]
        refine o_astore W154 (L' := #[.val (.int p0), .val (.int p1), .val (.int p2), .val (.int p3), .val (.int 1), .val (.int 0), .val (.int (p2 &&& (255 : Int32))), .val (.ref b1), .val (.ref b9), .val (.ref b22), .val (.ref b31), .val (.ref b32), .val (.ref b40), .val (.ref b151), .unset, .val (.ref b9), .val (.ref gO4), .val (.int 11), .val (.int 116)]) (pc' := 373) (hb hy at_371) rfl rfl rfl ?_
        refine o_iload W154 (pc' := 375) (hb hy at_373) rfl rfl ?_
        refine o_ifY W154 (pc' := 385) (hb hy at_375) (XT.i0_eq_t (by decide)) (by decide) rfl ?_
        refine o_aload W154 (pc' := 387) (hb hy at_385) rfl rfl rfl ?_
        refine o_astore W154 (L' := #[.val (.int p0), .val (.int p1), .val (.int p2), .val (.int p3), .val (.int 1), .val (.int 0), .val (.int (p2 &&& (255 : Int32))), .val (.ref b1), .val (.ref b9), .val (.ref b22), .val (.ref b31), .val (.ref b32), .val (.ref b40), .val (.ref b151), .val (.ref gO4), .val (.ref b9), .val (.ref gO4), .val (.int 11), .val (.int 116)]) (pc' := 389) (hb hy at_387) rfl rfl rfl ?_
        refine o_goto W154 (pc' := 395) (hb hy at_389) (by decide) rfl ?_
        refine o_goto W154 (pc' := 503) (hb hy at_395) (by decide) rfl ?_
        refine o_aload W154 (pc' := 505) (hb hy at_503) rfl rfl rfl ?_
        refine o_static W154 (y := (⟨"com/example/sessn/sessn/session/Weights", "labelled", "(Ljava/lang/String;)Lcom/example/sessn/sessn/session/Weights;"⟩ : MethodName)) (w34 hw) (w35 hw) (w2 hw) (w36 hw) (by decide) (argsL := [(.ref b151)]) (CtrN.back (Wd := 0) W154 (rm3 l Z a0 hw gCS gO1 gO2 gO4 gO6 gO8 gO9 gO10 gO11 gO12 gO13 k_gO2 k_gO9 k_gO11 k_gO13 b151 t154 kb154 [(112 : Int32), (114 : Int32), (101 : Int32), (118 : Int32), (45 : Int32), (99 : Int32), (117 : Int32), (114 : Int32), (114 : Int32), (101 : Int32), (110 : Int32), (116 : Int32)] h154 W154.old SgO2__VALUES VgO2 XgO2 FitgO2 FgO1_label SgCS NgCS XgO8 FgO8_value FgO8_coder VgO9 X154 Fv154 Fc154 B154 ok153 (own_eqN (by simp)) FgO4_label XgO10 FgO10_value FgO10_coder VgO11 (own_eqne _) FgO6_label XgO12 FgO12_value FgO12_coder VgO13 (own_eqN (by simp))) (w36 hw) (w2 hw) (by decide) (by decide)) (by rw [hml]; rfl) (lenOf pd3 rfl) (S := []) rfl (by exact Nat.le_of_eq rfl) (pc' := 508) (hb hy at_505) rfl (cells' := 9) (slots' := 64) rfl rfl (by decide) (by decide) (wy := []) (fun _ _ _ q => ⟨q.1, q.2.1⟩) all0 (fun _ _ => trivial) ?_
        intro v155 T155 h155 lo155 W155 K155 q155
        obtain rfl := q155.2.2
        show Gl _ _ _ _ _ _ _ _ [(.ref gO4)]
        refine o_aload W155 (pc' := 510) (hb hy at_508) rfl rfl rfl ?_
        refine o_acmpN W155 (pc' := 513) (hb hy at_510) rfl rfl (XT.aa_ne_f rfl) rfl ?_
        refine o_iconst W155 (v := 1) (pc' := 514) (hb hy at_513) rfl rfl ?_
        refine o_goto W155 (pc' := 518) (hb hy at_514) (by decide) rfl ?_
        exact o_retN W155 hlk (t := .boolean) hret (by simp) (z' := (1 : Int32)) (by decide) (hb hy at_518) (by decide) (by decide) rfl
    · rw [ek49]
      refine o_iload W48 (pc' := 285) (hb hy at_283) rfl rfl ?_
      refine o_iconst W48 (v := 3) (pc' := 286) (hb hy at_285) rfl rfl ?_
      refine o_icmpN W48 (pc' := 289) (hb hy at_286) (XT.ii_ge_f (by decide)) rfl ?_
      refine o_iload W48 (pc' := 291) (hb hy at_289) rfl rfl ?_
      refine o_ifY W48 (pc' := 306) (hb hy at_291) (XT.i0_ne_t (by decide)) (by decide) rfl ?_
      refine o_iload W48 (pc' := 308) (hb hy at_306) rfl rfl ?_
      refine o_iconst W48 (v := 1) (pc' := 309) (hb hy at_308) rfl rfl ?_
      refine o_icmpY W48 (pc' := 324) (hb hy at_309) (XT.ii_ne_t (by decide)) (by decide) rfl ?_
      refine o_aload W48 (pc' := 326) (hb hy at_324) rfl rfl rfl ?_
      refine o_astore W48 (L' := #[.val (.int p0), .val (.int p1), .val (.int p2), .val (.int p3), .val (.int 2), .val (.int 0), .val (.int (p2 &&& (255 : Int32))), .val (.ref b1), .val (.ref b9), .val (.ref b22), .val (.ref b31), .val (.ref b32), .val (.ref b40), .unset, .unset, .val (.ref b22), .unset, .unset, .unset]) (pc' := 328) (hb hy at_326) rfl rfl rfl ?_
      refine o_getS W48 (w66 hw) Via.refl (SgO6_DISTANCE.ext W48.ox) (pc' := 331) (hb hy at_328) rfl ?_
      intro T156 W156
      refine o_astore W156 (L' := #[.val (.int p0), .val (.int p1), .val (.int p2), .val (.int p3), .val (.int 2), .val (.int 0), .val (.int (p2 &&& (255 : Int32))), .val (.ref b1), .val (.ref b9), .val (.ref b22), .val (.ref b31), .val (.ref b32), .val (.ref b40), .unset, .unset, .val (.ref b22), .val (.ref gO6), .unset, .unset]) (pc' := 333) (hb hy at_331) rfl rfl rfl ?_
      refine o_iloadN W156 (pc' := 334) (hb hy at_333) rfl rfl ?_
      refine o_ldcI W156 (w4 hw) (pc' := 336) (hb hy at_334) rfl ?_
      refine o_iand W156 (v := (p1 &&& (2147483647 : Int32))) (pc' := 337) (hb hy at_336) rfl rfl ?_
      refine o_aload W156 (pc' := 339) (hb hy at_337) rfl rfl rfl ?_
      have c157 := (V30.ext E31)
      have c158 := ((((((((c157.ext E32).other R33 (own_ne c157.lt ge32)).other R34 (own_ne c157.lt ge32)).other R35 (own_ne c157.lt ge32)).other R36 (own_ne c157.lt ge32)).other R37 (own_ne c157.lt ge32)).other R38 (own_ne c157.lt ge32)).other R39 (own_ne c157.lt ge32))
      have c159 := ((((((((((((((((((V30.ext E31).ext E32).other R33 (own_ne c157.lt ge32)).other R34 (own_ne c157.lt ge32)).other R35 (own_ne c157.lt ge32)).other R36 (own_ne c157.lt ge32)).other R37 (own_ne c157.lt ge32)).other R38 (own_ne c157.lt ge32)).other R39 (own_ne c157.lt ge32)).ext E40).other R41 (own_ne c158.lt ge40)).other R42 (own_ne c158.lt ge40)).other R43 (own_ne c158.lt ge40)).other R44 (own_ne c158.lt ge40)).other R45 (own_ne c158.lt ge40)).other R46 (own_ne c158.lt ge40)).other R47 (own_ne c158.lt ge40)).other R48 (own_ne c158.lt ge40))
      refine o_len W156 c159 (pc' := 340) (hb hy at_339) rfl ?_
      rcases own_rem8 p1 with ek160 | ek160 | ek160 | ek160 | ek160 | ek160 | ek160 | ek160
      · refine o_irem W156 (v := 0) (pc' := 341) (hb hy at_340) (by decide) ek160 rfl ?_
        refine o_istore W156 (L' := #[.val (.int p0), .val (.int p1), .val (.int p2), .val (.int p3), .val (.int 2), .val (.int 0), .val (.int (p2 &&& (255 : Int32))), .val (.ref b1), .val (.ref b9), .val (.ref b22), .val (.ref b31), .val (.ref b32), .val (.ref b40), .unset, .unset, .val (.ref b22), .val (.ref gO6), .val (.int 0), .unset]) (pc' := 343) (hb hy at_341) rfl rfl ?_
        refine o_aload W156 (pc' := 345) (hb hy at_343) rfl rfl rfl ?_
        refine o_iload W156 (pc' := 347) (hb hy at_345) rfl rfl ?_
        refine o_caload W156 c159 (x := (100 : Int32)) (i := 0) (by decide) (by decide) (by decide) rfl (pc' := 348) (hb hy at_347) rfl ?_
        refine o_istore W156 (L' := #[.val (.int p0), .val (.int p1), .val (.int p2), .val (.int p3), .val (.int 2), .val (.int 0), .val (.int (p2 &&& (255 : Int32))), .val (.ref b1), .val (.ref b9), .val (.ref b22), .val (.ref b31), .val (.ref b32), .val (.ref b40), .unset, .unset, .val (.ref b22), .val (.ref gO6), .val (.int 0), .val (.int 100)]) (pc' := 350) (hb hy at_348) rfl rfl ?_
        refine o_iload W156 (pc' := 352) (hb hy at_350) rfl rfl ?_
        refine o_ifY W156 (pc' := 362) (hb hy at_352) (XT.i0_eq_t (by decide)) (by decide) rfl ?_
        refine o_new W156 (w5 hw) (w6 hw) (w7 hw) (fun _ _ => trivial) (pc' := 365) (hb hy at_362) rfl (cells' := 7) (slots' := 49) rfl rfl (by decide) (by decide) ?_
        intro b161 T161 h161 W161 E161 ge161 gz161 gb161 A161 D161
        have Fb161_coder : Fld Z h161 b161 "java/lang/String" "coder" "B" (.int 0) := D161 (Or.inr (w31 hw)) (ty := .byte) (by decide)
        have Fb161_value : Fld Z h161 b161 "java/lang/String" "value" "[B" .null := D161 (Or.inr (w33 hw)) (ty := (.array .byte)) (by decide)
        refine o_dup W161 (pc' := 366) (hb hy at_365) rfl rfl ?_
        refine o_aload W161 (pc' := 368) (hb hy at_366) rfl rfl rfl ?_
        have c162 := (c159.ext E161)
        have ok163 : own_ok [(100 : Int32), (105 : Int32), (115 : Int32), (116 : Int32), (97 : Int32), (110 : Int32), (99 : Int32), (101 : Int32)] := ⟨by simp only [List.mem_cons, List.not_mem_nil, or_false, forall_eq_or_imp, forall_eq, false_imp_iff, implies_true]; exact ⟨(by unfold own_b; decide), (by unfold own_b; decide), (by unfold own_b; decide), (by unfold own_b; decide), (by unfold own_b; decide), (by unfold own_b; decide), (by unfold own_b; decide), (by unfold own_b; decide)⟩, Nat.le_of_ble_eq_true rfl⟩
        refine o_special W161 (y := (⟨"java/lang/String", "<init>", "([C)V"⟩ : MethodName)) rfl (w8 hw) (w9 hw) (w10 hw) (by decide) (a := b161) (argsL := [(.ref b22)]) (StrChars.Road.backV (W := 1) W161.2.2.2.1 (own_hV hw) (kI := 4) (w6 hw) (cs := [(100 : Int32), (105 : Int32), (115 : Int32), (116 : Int32), (97 : Int32), (110 : Int32), (99 : Int32), (101 : Int32)]) (bs := [((100 : Int32)).toInt8.toInt32, ((105 : Int32)).toInt8.toInt32, ((115 : Int32)).toInt8.toInt32, ((116 : Int32)).toInt8.toInt32, ((97 : Int32)).toInt8.toInt32, ((110 : Int32)).toInt8.toInt32, ((99 : Int32)).toInt8.toInt32, ((101 : Int32)).toInt8.toInt32]) (n := 8) (n0 := Z.heap.size) gz161 W161.zs A161 Fb161_value Fb161_coder c162 (SgCS.ext W161.ox) NgCS rfl rfl (by decide) (by decide) ok163.1 rfl (by decide) (by decide)) (by rw [hml]; rfl) (lenOf pd0 rfl) (S := [(.ref b161)]) rfl (by exact Nat.le_of_eq rfl) (pc' := 371) (hb hy at_368) rfl (cells' := 8) (slots' := 57) rfl rfl (by decide) (by decide) (wy := [b161]) (fun _ _ _ q => ⟨q.2.1, q.2.2.1⟩) (allS ⟨gz161, (Or.inr gb161)⟩ all0) (fun _ _ => trivial) ?_
        intro v164 T164 h164 lo164 W164 K164 q164
        obtain ⟨rfl, -, -, X164, Fc164, t164, kb164, gz164, ge164, -, Fv164, A164⟩ := q164
        have B164 : Arv Z h164 t164 kb164 .byte (8 : Int32) [(.int (StrChars.lo8 (100 : Int32))), (.int (StrChars.lo8 (105 : Int32))), (.int (StrChars.lo8 (115 : Int32))), (.int (StrChars.lo8 (116 : Int32))), (.int (StrChars.lo8 (97 : Int32))), (.int (StrChars.lo8 (110 : Int32))), (.int (StrChars.lo8 (99 : Int32))), (.int (StrChars.lo8 (101 : Int32)))] (.int 0) := A164
        show Gl _ _ _ _ _ _ _ _ [(.ref b161)]
        refine o_astore W164 (L' := #[.val (.int p0), .val (.int p1), .val (.int p2), .val (.int p3), .val (.int 2), .val (.int 0), .val (.int (p2 &&& (255 : Int32))), .val (.ref b1), .val (.ref b9), .val (.ref b22), .val (.ref b31), .val (.ref b32), .val (.ref b40), .val (.ref b161), .unset, .val (.ref b22), .val (.ref gO6), .val (.int 0), .val (.int 100)]) (pc' := 373) (hb hy at_371) rfl rfl rfl ?_
        refine o_iload W164 (pc' := 375) (hb hy at_373) rfl rfl ?_
        refine o_ifY W164 (pc' := 385) (hb hy at_375) (XT.i0_eq_t (by decide)) (by decide) rfl ?_
        refine o_aload W164 (pc' := 387) (hb hy at_385) rfl rfl rfl ?_
        refine o_astore W164 (L' := #[.val (.int p0), .val (.int p1), .val (.int p2), .val (.int p3), .val (.int 2), .val (.int 0), .val (.int (p2 &&& (255 : Int32))), .val (.ref b1), .val (.ref b9), .val (.ref b22), .val (.ref b31), .val (.ref b32), .val (.ref b40), .val (.ref b161), .val (.ref gO6), .val (.ref b22), .val (.ref gO6), .val (.int 0), .val (.int 100)]) (pc' := 389) (hb hy at_387) rfl rfl rfl ?_
        refine o_goto W164 (pc' := 395) (hb hy at_389) (by decide) rfl ?_
        refine o_goto W164 (pc' := 503) (hb hy at_395) (by decide) rfl ?_
        refine o_aload W164 (pc' := 505) (hb hy at_503) rfl rfl rfl ?_
        refine o_static W164 (y := (⟨"com/example/sessn/sessn/session/Weights", "labelled", "(Ljava/lang/String;)Lcom/example/sessn/sessn/session/Weights;"⟩ : MethodName)) (w34 hw) (w35 hw) (w2 hw) (w36 hw) (by decide) (argsL := [(.ref b161)]) (CtrN.back (Wd := 0) W164 (rm4 l Z a0 hw gCS gO1 gO2 gO4 gO6 gO8 gO9 gO10 gO11 gO12 gO13 k_gO2 k_gO9 k_gO11 k_gO13 b161 t164 kb164 [(100 : Int32), (105 : Int32), (115 : Int32), (116 : Int32), (97 : Int32), (110 : Int32), (99 : Int32), (101 : Int32)] h164 W164.old SgO2__VALUES VgO2 XgO2 FitgO2 FgO1_label SgCS NgCS XgO8 FgO8_value FgO8_coder VgO9 X164 Fv164 Fc164 B164 ok163 (own_eqN (by simp)) FgO4_label XgO10 FgO10_value FgO10_coder VgO11 (own_eqN (by simp)) FgO6_label XgO12 FgO12_value FgO12_coder VgO13 (own_eqne _)) (w36 hw) (w2 hw) (by decide) (by decide)) (by rw [hml]; rfl) (lenOf pd3 rfl) (S := []) rfl (by exact Nat.le_of_eq rfl) (pc' := 508) (hb hy at_505) rfl (cells' := 9) (slots' := 60) rfl rfl (by decide) (by decide) (wy := []) (fun _ _ _ q => ⟨q.1, q.2.1⟩) all0 (fun _ _ => trivial) ?_
        intro v165 T165 h165 lo165 W165 K165 q165
        obtain rfl := q165.2.2
        show Gl _ _ _ _ _ _ _ _ [(.ref gO6)]
        refine o_aload W165 (pc' := 510) (hb hy at_508) rfl rfl rfl ?_
        refine o_acmpN W165 (pc' := 513) (hb hy at_510) rfl rfl (XT.aa_ne_f rfl) rfl ?_
        refine o_iconst W165 (v := 1) (pc' := 514) (hb hy at_513) rfl rfl ?_
        refine o_goto W165 (pc' := 518) (hb hy at_514) (by decide) rfl ?_
        exact o_retN W165 hlk (t := .boolean) hret (by simp) (z' := (1 : Int32)) (by decide) (hb hy at_518) (by decide) (by decide) rfl
      · refine o_irem W156 (v := 1) (pc' := 341) (hb hy at_340) (by decide) ek160 rfl ?_
        refine o_istore W156 (L' := #[.val (.int p0), .val (.int p1), .val (.int p2), .val (.int p3), .val (.int 2), .val (.int 0), .val (.int (p2 &&& (255 : Int32))), .val (.ref b1), .val (.ref b9), .val (.ref b22), .val (.ref b31), .val (.ref b32), .val (.ref b40), .unset, .unset, .val (.ref b22), .val (.ref gO6), .val (.int 1), .unset]) (pc' := 343) (hb hy at_341) rfl rfl ?_
        refine o_aload W156 (pc' := 345) (hb hy at_343) rfl rfl rfl ?_
        refine o_iload W156 (pc' := 347) (hb hy at_345) rfl rfl ?_
        refine o_caload W156 c159 (x := (105 : Int32)) (i := 1) (by decide) (by decide) (by decide) rfl (pc' := 348) (hb hy at_347) rfl ?_
        refine o_istore W156 (L' := #[.val (.int p0), .val (.int p1), .val (.int p2), .val (.int p3), .val (.int 2), .val (.int 0), .val (.int (p2 &&& (255 : Int32))), .val (.ref b1), .val (.ref b9), .val (.ref b22), .val (.ref b31), .val (.ref b32), .val (.ref b40), .unset, .unset, .val (.ref b22), .val (.ref gO6), .val (.int 1), .val (.int 105)]) (pc' := 350) (hb hy at_348) rfl rfl ?_
        refine o_iload W156 (pc' := 352) (hb hy at_350) rfl rfl ?_
        refine o_ifY W156 (pc' := 362) (hb hy at_352) (XT.i0_eq_t (by decide)) (by decide) rfl ?_
        refine o_new W156 (w5 hw) (w6 hw) (w7 hw) (fun _ _ => trivial) (pc' := 365) (hb hy at_362) rfl (cells' := 7) (slots' := 49) rfl rfl (by decide) (by decide) ?_
        intro b166 T166 h166 W166 E166 ge166 gz166 gb166 A166 D166
        have Fb166_coder : Fld Z h166 b166 "java/lang/String" "coder" "B" (.int 0) := D166 (Or.inr (w31 hw)) (ty := .byte) (by decide)
        have Fb166_value : Fld Z h166 b166 "java/lang/String" "value" "[B" .null := D166 (Or.inr (w33 hw)) (ty := (.array .byte)) (by decide)
        refine o_dup W166 (pc' := 366) (hb hy at_365) rfl rfl ?_
        refine o_aload W166 (pc' := 368) (hb hy at_366) rfl rfl rfl ?_
        have c167 := (c159.ext E166)
        have ok168 : own_ok [(100 : Int32), (105 : Int32), (115 : Int32), (116 : Int32), (97 : Int32), (110 : Int32), (99 : Int32), (101 : Int32)] := ⟨by simp only [List.mem_cons, List.not_mem_nil, or_false, forall_eq_or_imp, forall_eq, false_imp_iff, implies_true]; exact ⟨(by unfold own_b; decide), (by unfold own_b; decide), (by unfold own_b; decide), (by unfold own_b; decide), (by unfold own_b; decide), (by unfold own_b; decide), (by unfold own_b; decide), (by unfold own_b; decide)⟩, Nat.le_of_ble_eq_true rfl⟩
        refine o_special W166 (y := (⟨"java/lang/String", "<init>", "([C)V"⟩ : MethodName)) rfl (w8 hw) (w9 hw) (w10 hw) (by decide) (a := b166) (argsL := [(.ref b22)]) (StrChars.Road.backV (W := 1) W166.2.2.2.1 (own_hV hw) (kI := 4) (w6 hw) (cs := [(100 : Int32), (105 : Int32), (115 : Int32), (116 : Int32), (97 : Int32), (110 : Int32), (99 : Int32), (101 : Int32)]) (bs := [((100 : Int32)).toInt8.toInt32, ((105 : Int32)).toInt8.toInt32, ((115 : Int32)).toInt8.toInt32, ((116 : Int32)).toInt8.toInt32, ((97 : Int32)).toInt8.toInt32, ((110 : Int32)).toInt8.toInt32, ((99 : Int32)).toInt8.toInt32, ((101 : Int32)).toInt8.toInt32]) (n := 8) (n0 := Z.heap.size) gz166 W166.zs A166 Fb166_value Fb166_coder c167 (SgCS.ext W166.ox) NgCS rfl rfl (by decide) (by decide) ok168.1 rfl (by decide) (by decide)) (by rw [hml]; rfl) (lenOf pd0 rfl) (S := [(.ref b166)]) rfl (by exact Nat.le_of_eq rfl) (pc' := 371) (hb hy at_368) rfl (cells' := 8) (slots' := 57) rfl rfl (by decide) (by decide) (wy := [b166]) (fun _ _ _ q => ⟨q.2.1, q.2.2.1⟩) (allS ⟨gz166, (Or.inr gb166)⟩ all0) (fun _ _ => trivial) ?_
        intro v169 T169 h169 lo169 W169 K169 q169
        obtain ⟨rfl, -, -, X169, Fc169, t169, kb169, gz169, ge169, -, Fv169, A169⟩ := q169
        have B169 : Arv Z h169 t169 kb169 .byte (8 : Int32) [(.int (StrChars.lo8 (100 : Int32))), (.int (StrChars.lo8 (105 : Int32))), (.int (StrChars.lo8 (115 : Int32))), (.int (StrChars.lo8 (116 : Int32))), (.int (StrChars.lo8 (97 : Int32))), (.int (StrChars.lo8 (110 : Int32))), (.int (StrChars.lo8 (99 : Int32))), (.int (StrChars.lo8 (101 : Int32)))] (.int 0) := A169
        show Gl _ _ _ _ _ _ _ _ [(.ref b166)]
        refine o_astore W169 (L' := #[.val (.int p0), .val (.int p1), .val (.int p2), .val (.int p3), .val (.int 2), .val (.int 0), .val (.int (p2 &&& (255 : Int32))), .val (.ref b1), .val (.ref b9), .val (.ref b22), .val (.ref b31), .val (.ref b32), .val (.ref b40), .val (.ref b166), .unset, .val (.ref b22), .val (.ref gO6), .val (.int 1), .val (.int 105)]) (pc' := 373) (hb hy at_371) rfl rfl rfl ?_
        refine o_iload W169 (pc' := 375) (hb hy at_373) rfl rfl ?_
        refine o_ifY W169 (pc' := 385) (hb hy at_375) (XT.i0_eq_t (by decide)) (by decide) rfl ?_
        refine o_aload W169 (pc' := 387) (hb hy at_385) rfl rfl rfl ?_
        refine o_astore W169 (L' := #[.val (.int p0), .val (.int p1), .val (.int p2), .val (.int p3), .val (.int 2), .val (.int 0), .val (.int (p2 &&& (255 : Int32))), .val (.ref b1), .val (.ref b9), .val (.ref b22), .val (.ref b31), .val (.ref b32), .val (.ref b40), .val (.ref b166), .val (.ref gO6), .val (.ref b22), .val (.ref gO6), .val (.int 1), .val (.int 105)]) (pc' := 389) (hb hy at_387) rfl rfl rfl ?_
        refine o_goto W169 (pc' := 395) (hb hy at_389) (by decide) rfl ?_
        refine o_goto W169 (pc' := 503) (hb hy at_395) (by decide) rfl ?_
        refine o_aload W169 (pc' := 505) (hb hy at_503) rfl rfl rfl ?_
        refine o_static W169 (y := (⟨"com/example/sessn/sessn/session/Weights", "labelled", "(Ljava/lang/String;)Lcom/example/sessn/sessn/session/Weights;"⟩ : MethodName)) (w34 hw) (w35 hw) (w2 hw) (w36 hw) (by decide) (argsL := [(.ref b166)]) (CtrN.back (Wd := 0) W169 (rm4 l Z a0 hw gCS gO1 gO2 gO4 gO6 gO8 gO9 gO10 gO11 gO12 gO13 k_gO2 k_gO9 k_gO11 k_gO13 b166 t169 kb169 [(100 : Int32), (105 : Int32), (115 : Int32), (116 : Int32), (97 : Int32), (110 : Int32), (99 : Int32), (101 : Int32)] h169 W169.old SgO2__VALUES VgO2 XgO2 FitgO2 FgO1_label SgCS NgCS XgO8 FgO8_value FgO8_coder VgO9 X169 Fv169 Fc169 B169 ok168 (own_eqN (by simp)) FgO4_label XgO10 FgO10_value FgO10_coder VgO11 (own_eqN (by simp)) FgO6_label XgO12 FgO12_value FgO12_coder VgO13 (own_eqne _)) (w36 hw) (w2 hw) (by decide) (by decide)) (by rw [hml]; rfl) (lenOf pd3 rfl) (S := []) rfl (by exact Nat.le_of_eq rfl) (pc' := 508) (hb hy at_505) rfl (cells' := 9) (slots' := 60) rfl rfl (by decide) (by decide) (wy := []) (fun _ _ _ q => ⟨q.1, q.2.1⟩) all0 (fun _ _ => trivial) ?_
        intro v170 T170 h170 lo170 W170 K170 q170
        obtain rfl := q170.2.2
        show Gl _ _ _ _ _ _ _ _ [(.ref gO6)]
        refine o_aload W170 (pc' := 510) (hb hy at_508) rfl rfl rfl ?_
        refine o_acmpN W170 (pc' := 513) (hb hy at_510) rfl rfl (XT.aa_ne_f rfl) rfl ?_
        refine o_iconst W170 (v := 1) (pc' := 514) (hb hy at_513) rfl rfl ?_
        refine o_goto W170 (pc' := 518) (hb hy at_514) (by decide) rfl ?_
        exact o_retN W170 hlk (t := .boolean) hret (by simp) (z' := (1 : Int32)) (by decide) (hb hy at_518) (by decide) (by decide) rfl
      · refine o_irem W156 (v := 2) (pc' := 341) (hb hy at_340) (by decide) ek160 rfl ?_
        refine o_istore W156 (L' := #[.val (.int p0), .val (.int p1), .val (.int p2), .val (.int p3), .val (.int 2), .val (.int 0), .val (.int (p2 &&& (255 : Int32))), .val (.ref b1), .val (.ref b9), .val (.ref b22), .val (.ref b31), .val (.ref b32), .val (.ref b40), .unset, .unset, .val (.ref b22), .val (.ref gO6), .val (.int 2), .unset]) (pc' := 343) (hb hy at_341) rfl rfl ?_
        refine o_aload W156 (pc' := 345) (hb hy at_343) rfl rfl rfl ?_
        refine o_iload W156 (pc' := 347) (hb hy at_345) rfl rfl ?_
        refine o_caload W156 c159 (x := (115 : Int32)) (i := 2) (by decide) (by decide) (by decide) rfl (pc' := 348) (hb hy at_347) rfl ?_
        refine o_istore W156 (L' := #[.val (.int p0), .val (.int p1), .val (.int p2), .val (.int p3), .val (.int 2), .val (.int 0), .val (.int (p2 &&& (255 : Int32))), .val (.ref b1), .val (.ref b9), .val (.ref b22), .val (.ref b31), .val (.ref b32), .val (.ref b40), .unset, .unset, .val (.ref b22), .val (.ref gO6), .val (.int 2), .val (.int 115)]) (pc' := 350) (hb hy at_348) rfl rfl ?_
        refine o_iload W156 (pc' := 352) (hb hy at_350) rfl rfl ?_
        refine o_ifY W156 (pc' := 362) (hb hy at_352) (XT.i0_eq_t (by decide)) (by decide) rfl ?_
        refine o_new W156 (w5 hw) (w6 hw) (w7 hw) (fun _ _ => trivial) (pc' := 365) (hb hy at_362) rfl (cells' := 7) (slots' := 49) rfl rfl (by decide) (by decide) ?_
        intro b171 T171 h171 W171 E171 ge171 gz171 gb171 A171 D171
        have Fb171_coder : Fld Z h171 b171 "java/lang/String" "coder" "B" (.int 0) := D171 (Or.inr (w31 hw)) (ty := .byte) (by decide)
        have Fb171_value : Fld Z h171 b171 "java/lang/String" "value" "[B" .null := D171 (Or.inr (w33 hw)) (ty := (.array .byte)) (by decide)
        refine o_dup W171 (pc' := 366) (hb hy at_365) rfl rfl ?_
        refine o_aload W171 (pc' := 368) (hb hy at_366) rfl rfl rfl ?_
        have c172 := (c159.ext E171)
        have ok173 : own_ok [(100 : Int32), (105 : Int32), (115 : Int32), (116 : Int32), (97 : Int32), (110 : Int32), (99 : Int32), (101 : Int32)] := ⟨by simp only [List.mem_cons, List.not_mem_nil, or_false, forall_eq_or_imp, forall_eq, false_imp_iff, implies_true]; exact ⟨(by unfold own_b; decide), (by unfold own_b; decide), (by unfold own_b; decide), (by unfold own_b; decide), (by unfold own_b; decide), (by unfold own_b; decide), (by unfold own_b; decide), (by unfold own_b; decide)⟩, Nat.le_of_ble_eq_true rfl⟩
        refine o_special W171 (y := (⟨"java/lang/String", "<init>", "([C)V"⟩ : MethodName)) rfl (w8 hw) (w9 hw) (w10 hw) (by decide) (a := b171) (argsL := [(.ref b22)]) (StrChars.Road.backV (W := 1) W171.2.2.2.1 (own_hV hw) (kI := 4) (w6 hw) (cs := [(100 : Int32), (105 : Int32), (115 : Int32), (116 : Int32), (97 : Int32), (110 : Int32), (99 : Int32), (101 : Int32)]) (bs := [((100 : Int32)).toInt8.toInt32, ((105 : Int32)).toInt8.toInt32, ((115 : Int32)).toInt8.toInt32, ((116 : Int32)).toInt8.toInt32, ((97 : Int32)).toInt8.toInt32, ((110 : Int32)).toInt8.toInt32, ((99 : Int32)).toInt8.toInt32, ((101 : Int32)).toInt8.toInt32]) (n := 8) (n0 := Z.heap.size) gz171 W171.zs A171 Fb171_value Fb171_coder c172 (SgCS.ext W171.ox) NgCS rfl rfl (by decide) (by decide) ok173.1 rfl (by decide) (by decide)) (by rw [hml]; rfl) (lenOf pd0 rfl) (S := [(.ref b171)]) rfl (by exact Nat.le_of_eq rfl) (pc' := 371) (hb hy at_368) rfl (cells' := 8) (slots' := 57) rfl rfl (by decide) (by decide) (wy := [b171]) (fun _ _ _ q => ⟨q.2.1, q.2.2.1⟩) (allS ⟨gz171, (Or.inr gb171)⟩ all0) (fun _ _ => trivial) ?_
        intro v174 T174 h174 lo174 W174 K174 q174
        obtain ⟨rfl, -, -, X174, Fc174, t174, kb174, gz174, ge174, -, Fv174, A174⟩ := q174
        have B174 : Arv Z h174 t174 kb174 .byte (8 : Int32) [(.int (StrChars.lo8 (100 : Int32))), (.int (StrChars.lo8 (105 : Int32))), (.int (StrChars.lo8 (115 : Int32))), (.int (StrChars.lo8 (116 : Int32))), (.int (StrChars.lo8 (97 : Int32))), (.int (StrChars.lo8 (110 : Int32))), (.int (StrChars.lo8 (99 : Int32))), (.int (StrChars.lo8 (101 : Int32)))] (.int 0) := A174
        show Gl _ _ _ _ _ _ _ _ [(.ref b171)]
        refine o_astore W174 (L' := #[.val (.int p0), .val (.int p1), .val (.int p2), .val (.int p3), .val (.int 2), .val (.int 0), .val (.int (p2 &&& (255 : Int32))), .val (.ref b1), .val (.ref b9), .val (.ref b22), .val (.ref b31), .val (.ref b32), .val (.ref b40), .val (.ref b171), .unset, .val (.ref b22), .val (.ref gO6), .val (.int 2), .val (.int 115)]) (pc' := 373) (hb hy at_371) rfl rfl rfl ?_
        refine o_iload W174 (pc' := 375) (hb hy at_373) rfl rfl ?_
        refine o_ifY W174 (pc' := 385) (hb hy at_375) (XT.i0_eq_t (by decide)) (by decide) rfl ?_
        refine o_aload W174 (pc' := 387) (hb hy at_385) rfl rfl rfl ?_
        refine o_astore W174 (L' := #[.val (.int p0), .val (.int p1), .val (.int p2), .val (.int p3), .val (.int 2), .val (.int 0), .val (.int (p2 &&& (255 : Int32))), .val (.ref b1), .val (.ref b9), .val (.ref b22), .val (.ref b31), .val (.ref b32), .val (.ref b40), .val (.ref b171), .val (.ref gO6), .val (.ref b22), .val (.ref gO6), .val (.int 2), .val (.int 115)]) (pc' := 389) (hb hy at_387) rfl rfl rfl ?_
        refine o_goto W174 (pc' := 395) (hb hy at_389) (by decide) rfl ?_
        refine o_goto W174 (pc' := 503) (hb hy at_395) (by decide) rfl ?_
        refine o_aload W174 (pc' := 505) (hb hy at_503) rfl rfl rfl ?_
        refine o_static W174 (y := (⟨"com/example/sessn/sessn/session/Weights", "labelled", "(Ljava/lang/String;)Lcom/example/sessn/sessn/session/Weights;"⟩ : MethodName)) (w34 hw) (w35 hw) (w2 hw) (w36 hw) (by decide) (argsL := [(.ref b171)]) (CtrN.back (Wd := 0) W174 (rm4 l Z a0 hw gCS gO1 gO2 gO4 gO6 gO8 gO9 gO10 gO11 gO12 gO13 k_gO2 k_gO9 k_gO11 k_gO13 b171 t174 kb174 [(100 : Int32), (105 : Int32), (115 : Int32), (116 : Int32), (97 : Int32), (110 : Int32), (99 : Int32), (101 : Int32)] h174 W174.old SgO2__VALUES VgO2 XgO2 FitgO2 FgO1_label SgCS NgCS XgO8 FgO8_value FgO8_coder VgO9 X174 Fv174 Fc174 B174 ok173 (own_eqN (by simp)) FgO4_label XgO10 FgO10_value FgO10_coder VgO11 (own_eqN (by simp)) FgO6_label XgO12 FgO12_value FgO12_coder VgO13 (own_eqne _)) (w36 hw) (w2 hw) (by decide) (by decide)) (by rw [hml]; rfl) (lenOf pd3 rfl) (S := []) rfl (by exact Nat.le_of_eq rfl) (pc' := 508) (hb hy at_505) rfl (cells' := 9) (slots' := 60) rfl rfl (by decide) (by decide) (wy := []) (fun _ _ _ q => ⟨q.1, q.2.1⟩) all0 (fun _ _ => trivial) ?_
        intro v175 T175 h175 lo175 W175 K175 q175
        obtain rfl := q175.2.2
        show Gl _ _ _ _ _ _ _ _ [(.ref gO6)]
        refine o_aload W175 (pc' := 510) (hb hy at_508) rfl rfl rfl ?_
        refine o_acmpN W175 (pc' := 513) (hb hy at_510) rfl rfl (XT.aa_ne_f rfl) rfl ?_
        refine o_iconst W175 (v := 1) (pc' := 514) (hb hy at_513) rfl rfl ?_
        refine o_goto W175 (pc' := 518) (hb hy at_514) (by decide) rfl ?_
        exact o_retN W175 hlk (t := .boolean) hret (by simp) (z' := (1 : Int32)) (by decide) (hb hy at_518) (by decide) (by decide) rfl
      · refine o_irem W156 (v := 3) (pc' := 341) (hb hy at_340) (by decide) ek160 rfl ?_
        refine o_istore W156 (L' := #[.val (.int p0), .val (.int p1), .val (.int p2), .val (.int p3), .val (.int 2), .val (.int 0), .val (.int (p2 &&& (255 : Int32))), .val (.ref b1), .val (.ref b9), .val (.ref b22), .val (.ref b31), .val (.ref b32), .val (.ref b40), .unset, .unset, .val (.ref b22), .val (.ref gO6), .val (.int 3), .unset]) (pc' := 343) (hb hy at_341) rfl rfl ?_
        refine o_aload W156 (pc' := 345) (hb hy at_343) rfl rfl rfl ?_
        refine o_iload W156 (pc' := 347) (hb hy at_345) rfl rfl ?_
        refine o_caload W156 c159 (x := (116 : Int32)) (i := 3) (by decide) (by decide) (by decide) rfl (pc' := 348) (hb hy at_347) rfl ?_
        refine o_istore W156 (L' := #[.val (.int p0), .val (.int p1), .val (.int p2), .val (.int p3), .val (.int 2), .val (.int 0), .val (.int (p2 &&& (255 : Int32))), .val (.ref b1), .val (.ref b9), .val (.ref b22), .val (.ref b31), .val (.ref b32), .val (.ref b40), .unset, .unset, .val (.ref b22), .val (.ref gO6), .val (.int 3), .val (.int 116)]) (pc' := 350) (hb hy at_348) rfl rfl ?_
        refine o_iload W156 (pc' := 352) (hb hy at_350) rfl rfl ?_
        refine o_ifY W156 (pc' := 362) (hb hy at_352) (XT.i0_eq_t (by decide)) (by decide) rfl ?_
        refine o_new W156 (w5 hw) (w6 hw) (w7 hw) (fun _ _ => trivial) (pc' := 365) (hb hy at_362) rfl (cells' := 7) (slots' := 49) rfl rfl (by decide) (by decide) ?_
        intro b176 T176 h176 W176 E176 ge176 gz176 gb176 A176 D176
        have Fb176_coder : Fld Z h176 b176 "java/lang/String" "coder" "B" (.int 0) := D176 (Or.inr (w31 hw)) (ty := .byte) (by decide)
        have Fb176_value : Fld Z h176 b176 "java/lang/String" "value" "[B" .null := D176 (Or.inr (w33 hw)) (ty := (.array .byte)) (by decide)
        refine o_dup W176 (pc' := 366) (hb hy at_365) rfl rfl ?_
        refine o_aload W176 (pc' := 368) (hb hy at_366) rfl rfl rfl ?_
        have c177 := (c159.ext E176)
        have ok178 : own_ok [(100 : Int32), (105 : Int32), (115 : Int32), (116 : Int32), (97 : Int32), (110 : Int32), (99 : Int32), (101 : Int32)] := ⟨by simp only [List.mem_cons, List.not_mem_nil, or_false, forall_eq_or_imp, forall_eq, false_imp_iff, implies_true]; exact ⟨(by unfold own_b; decide), (by unfold own_b; decide), (by unfold own_b; decide), (by unfold own_b; decide), (by unfold own_b; decide), (by unfold own_b; decide), (by unfold own_b; decide), (by unfold own_b; decide)⟩, Nat.le_of_ble_eq_true rfl⟩
        refine o_special W176 (y := (⟨"java/lang/String", "<init>", "([C)V"⟩ : MethodName)) rfl (w8 hw) (w9 hw) (w10 hw) (by decide) (a := b176) (argsL := [(.ref b22)]) (StrChars.Road.backV (W := 1) W176.2.2.2.1 (own_hV hw) (kI := 4) (w6 hw) (cs := [(100 : Int32), (105 : Int32), (115 : Int32), (116 : Int32), (97 : Int32), (110 : Int32), (99 : Int32), (101 : Int32)]) (bs := [((100 : Int32)).toInt8.toInt32, ((105 : Int32)).toInt8.toInt32, ((115 : Int32)).toInt8.toInt32, ((116 : Int32)).toInt8.toInt32, ((97 : Int32)).toInt8.toInt32, ((110 : Int32)).toInt8.toInt32, ((99 : Int32)).toInt8.toInt32, ((101 : Int32)).toInt8.toInt32]) (n := 8) (n0 := Z.heap.size) gz176 W176.zs A176 Fb176_value Fb176_coder c177 (SgCS.ext W176.ox) NgCS rfl rfl (by decide) (by decide) ok178.1 rfl (by decide) (by decide)) (by rw [hml]; rfl) (lenOf pd0 rfl) (S := [(.ref b176)]) rfl (by exact Nat.le_of_eq rfl) (pc' := 371) (hb hy at_368) rfl (cells' := 8) (slots' := 57) rfl rfl (by decide) (by decide) (wy := [b176]) (fun _ _ _ q => ⟨q.2.1, q.2.2.1⟩) (allS ⟨gz176, (Or.inr gb176)⟩ all0) (fun _ _ => trivial) ?_
        intro v179 T179 h179 lo179 W179 K179 q179
        obtain ⟨rfl, -, -, X179, Fc179, t179, kb179, gz179, ge179, -, Fv179, A179⟩ := q179
        have B179 : Arv Z h179 t179 kb179 .byte (8 : Int32) [(.int (StrChars.lo8 (100 : Int32))), (.int (StrChars.lo8 (105 : Int32))), (.int (StrChars.lo8 (115 : Int32))), (.int (StrChars.lo8 (116 : Int32))), (.int (StrChars.lo8 (97 : Int32))), (.int (StrChars.lo8 (110 : Int32))), (.int (StrChars.lo8 (99 : Int32))), (.int (StrChars.lo8 (101 : Int32)))] (.int 0) := A179
        show Gl _ _ _ _ _ _ _ _ [(.ref b176)]
        refine o_astore W179 (L' := #[.val (.int p0), .val (.int p1), .val (.int p2), .val (.int p3), .val (.int 2), .val (.int 0), .val (.int (p2 &&& (255 : Int32))), .val (.ref b1), .val (.ref b9), .val (.ref b22), .val (.ref b31), .val (.ref b32), .val (.ref b40), .val (.ref b176), .unset, .val (.ref b22), .val (.ref gO6), .val (.int 3), .val (.int 116)]) (pc' := 373) (hb hy at_371) rfl rfl rfl ?_
        refine o_iload W179 (pc' := 375) (hb hy at_373) rfl rfl ?_
        refine o_ifY W179 (pc' := 385) (hb hy at_375) (XT.i0_eq_t (by decide)) (by decide) rfl ?_
        refine o_aload W179 (pc' := 387) (hb hy at_385) rfl rfl rfl ?_
        refine o_astore W179 (L' := #[.val (.int p0), .val (.int p1), .val (.int p2), .val (.int p3), .val (.int 2), .val (.int 0), .val (.int (p2 &&& (255 : Int32))), .val (.ref b1), .val (.ref b9), .val (.ref b22), .val (.ref b31), .val (.ref b32), .val (.ref b40), .val (.ref b176), .val (.ref gO6), .val (.ref b22), .val (.ref gO6), .val (.int 3), .val (.int 116)]) (pc' := 389) (hb hy at_387) rfl rfl rfl ?_
        refine o_goto W179 (pc' := 395) (hb hy at_389) (by decide) rfl ?_
        refine o_goto W179 (pc' := 503) (hb hy at_395) (by decide) rfl ?_
        refine o_aload W179 (pc' := 505) (hb hy at_503) rfl rfl rfl ?_
        refine o_static W179 (y := (⟨"com/example/sessn/sessn/session/Weights", "labelled", "(Ljava/lang/String;)Lcom/example/sessn/sessn/session/Weights;"⟩ : MethodName)) (w34 hw) (w35 hw) (w2 hw) (w36 hw) (by decide) (argsL := [(.ref b176)]) (CtrN.back (Wd := 0) W179 (rm4 l Z a0 hw gCS gO1 gO2 gO4 gO6 gO8 gO9 gO10 gO11 gO12 gO13 k_gO2 k_gO9 k_gO11 k_gO13 b176 t179 kb179 [(100 : Int32), (105 : Int32), (115 : Int32), (116 : Int32), (97 : Int32), (110 : Int32), (99 : Int32), (101 : Int32)] h179 W179.old SgO2__VALUES VgO2 XgO2 FitgO2 FgO1_label SgCS NgCS XgO8 FgO8_value FgO8_coder VgO9 X179 Fv179 Fc179 B179 ok178 (own_eqN (by simp)) FgO4_label XgO10 FgO10_value FgO10_coder VgO11 (own_eqN (by simp)) FgO6_label XgO12 FgO12_value FgO12_coder VgO13 (own_eqne _)) (w36 hw) (w2 hw) (by decide) (by decide)) (by rw [hml]; rfl) (lenOf pd3 rfl) (S := []) rfl (by exact Nat.le_of_eq rfl) (pc' := 508) (hb hy at_505) rfl (cells' := 9) (slots' := 60) rfl rfl (by decide) (by decide) (wy := []) (fun _ _ _ q => ⟨q.1, q.2.1⟩) all0 (fun _ _ => trivial) ?_
        intro v180 T180 h180 lo180 W180 K180 q180
        obtain rfl := q180.2.2
        show Gl _ _ _ _ _ _ _ _ [(.ref gO6)]
        refine o_aload W180 (pc' := 510) (hb hy at_508) rfl rfl rfl ?_
        refine o_acmpN W180 (pc' := 513) (hb hy at_510) rfl rfl (XT.aa_ne_f rfl) rfl ?_
        refine o_iconst W180 (v := 1) (pc' := 514) (hb hy at_513) rfl rfl ?_
        refine o_goto W180 (pc' := 518) (hb hy at_514) (by decide) rfl ?_
        exact o_retN W180 hlk (t := .boolean) hret (by simp) (z' := (1 : Int32)) (by decide) (hb hy at_518) (by decide) (by decide) rfl
      · refine o_irem W156 (v := 4) (pc' := 341) (hb hy at_340) (by decide) ek160 rfl ?_
        refine o_istore W156 (L' := #[.val (.int p0), .val (.int p1), .val (.int p2), .val (.int p3), .val (.int 2), .val (.int 0), .val (.int (p2 &&& (255 : Int32))), .val (.ref b1), .val (.ref b9), .val (.ref b22), .val (.ref b31), .val (.ref b32), .val (.ref b40), .unset, .unset, .val (.ref b22), .val (.ref gO6), .val (.int 4), .unset]) (pc' := 343) (hb hy at_341) rfl rfl ?_
        refine o_aload W156 (pc' := 345) (hb hy at_343) rfl rfl rfl ?_
        refine o_iload W156 (pc' := 347) (hb hy at_345) rfl rfl ?_
        refine o_caload W156 c159 (x := (97 : Int32)) (i := 4) (by decide) (by decide) (by decide) rfl (pc' := 348) (hb hy at_347) rfl ?_
        refine o_istore W156 (L' := #[.val (.int p0), .val (.int p1), .val (.int p2), .val (.int p3), .val (.int 2), .val (.int 0), .val (.int (p2 &&& (255 : Int32))), .val (.ref b1), .val (.ref b9), .val (.ref b22), .val (.ref b31), .val (.ref b32), .val (.ref b40), .unset, .unset, .val (.ref b22), .val (.ref gO6), .val (.int 4), .val (.int 97)]) (pc' := 350) (hb hy at_348) rfl rfl ?_
        refine o_iload W156 (pc' := 352) (hb hy at_350) rfl rfl ?_
        refine o_ifY W156 (pc' := 362) (hb hy at_352) (XT.i0_eq_t (by decide)) (by decide) rfl ?_
        refine o_new W156 (w5 hw) (w6 hw) (w7 hw) (fun _ _ => trivial) (pc' := 365) (hb hy at_362) rfl (cells' := 7) (slots' := 49) rfl rfl (by decide) (by decide) ?_
        intro b181 T181 h181 W181 E181 ge181 gz181 gb181 A181 D181
        have Fb181_coder : Fld Z h181 b181 "java/lang/String" "coder" "B" (.int 0) := D181 (Or.inr (w31 hw)) (ty := .byte) (by decide)
        have Fb181_value : Fld Z h181 b181 "java/lang/String" "value" "[B" .null := D181 (Or.inr (w33 hw)) (ty := (.array .byte)) (by decide)
        refine o_dup W181 (pc' := 366) (hb hy at_365) rfl rfl ?_
        refine o_aload W181 (pc' := 368) (hb hy at_366) rfl rfl rfl ?_
        have c182 := (c159.ext E181)
        have ok183 : own_ok [(100 : Int32), (105 : Int32), (115 : Int32), (116 : Int32), (97 : Int32), (110 : Int32), (99 : Int32), (101 : Int32)] := ⟨by simp only [List.mem_cons, List.not_mem_nil, or_false, forall_eq_or_imp, forall_eq, false_imp_iff, implies_true]; exact ⟨(by unfold own_b; decide), (by unfold own_b; decide), (by unfold own_b; decide), (by unfold own_b; decide), (by unfold own_b; decide), (by unfold own_b; decide), (by unfold own_b; decide), (by unfold own_b; decide)⟩, Nat.le_of_ble_eq_true rfl⟩
        refine o_special W181 (y := (⟨"java/lang/String", "<init>", "([C)V"⟩ : MethodName)) rfl (w8 hw) (w9 hw) (w10 hw) (by decide) (a := b181) (argsL := [(.ref b22)]) (StrChars.Road.backV (W := 1) W181.2.2.2.1 (own_hV hw) (kI := 4) (w6 hw) (cs := [(100 : Int32), (105 : Int32), (115 : Int32), (116 : Int32), (97 : Int32), (110 : Int32), (99 : Int32), (101 : Int32)]) (bs := [((100 : Int32)).toInt8.toInt32, ((105 : Int32)).toInt8.toInt32, ((115 : Int32)).toInt8.toInt32, ((116 : Int32)).toInt8.toInt32, ((97 : Int32)).toInt8.toInt32, ((110 : Int32)).toInt8.toInt32, ((99 : Int32)).toInt8.toInt32, ((101 : Int32)).toInt8.toInt32]) (n := 8) (n0 := Z.heap.size) gz181 W181.zs A181 Fb181_value Fb181_coder c182 (SgCS.ext W181.ox) NgCS rfl rfl (by decide) (by decide) ok183.1 rfl (by decide) (by decide)) (by rw [hml]; rfl) (lenOf pd0 rfl) (S := [(.ref b181)]) rfl (by exact Nat.le_of_eq rfl) (pc' := 371) (hb hy at_368) rfl (cells' := 8) (slots' := 57) rfl rfl (by decide) (by decide) (wy := [b181]) (fun _ _ _ q => ⟨q.2.1, q.2.2.1⟩) (allS ⟨gz181, (Or.inr gb181)⟩ all0) (fun _ _ => trivial) ?_
        intro v184 T184 h184 lo184 W184 K184 q184
        obtain ⟨rfl, -, -, X184, Fc184, t184, kb184, gz184, ge184, -, Fv184, A184⟩ := q184
        have B184 : Arv Z h184 t184 kb184 .byte (8 : Int32) [(.int (StrChars.lo8 (100 : Int32))), (.int (StrChars.lo8 (105 : Int32))), (.int (StrChars.lo8 (115 : Int32))), (.int (StrChars.lo8 (116 : Int32))), (.int (StrChars.lo8 (97 : Int32))), (.int (StrChars.lo8 (110 : Int32))), (.int (StrChars.lo8 (99 : Int32))), (.int (StrChars.lo8 (101 : Int32)))] (.int 0) := A184
        show Gl _ _ _ _ _ _ _ _ [(.ref b181)]
        refine o_astore W184 (L' := #[.val (.int p0), .val (.int p1), .val (.int p2), .val (.int p3), .val (.int 2), .val (.int 0), .val (.int (p2 &&& (255 : Int32))), .val (.ref b1), .val (.ref b9), .val (.ref b22), .val (.ref b31), .val (.ref b32), .val (.ref b40), .val (.ref b181), .unset, .val (.ref b22), .val (.ref gO6), .val (.int 4), .val (.int 97)]) (pc' := 373) (hb hy at_371) rfl rfl rfl ?_
        refine o_iload W184 (pc' := 375) (hb hy at_373) rfl rfl ?_
        refine o_ifY W184 (pc' := 385) (hb hy at_375) (XT.i0_eq_t (by decide)) (by decide) rfl ?_
        refine o_aload W184 (pc' := 387) (hb hy at_385) rfl rfl rfl ?_
        refine o_astore W184 (L' := #[.val (.int p0), .val (.int p1), .val (.int p2), .val (.int p3), .val (.int 2), .val (.int 0), .val (.int (p2 &&& (255 : Int32))), .val (.ref b1), .val (.ref b9), .val (.ref b22), .val (.ref b31), .val (.ref b32), .val (.ref b40), .val (.ref b181), .val (.ref gO6), .val (.ref b22), .val (.ref gO6), .val (.int 4), .val (.int 97)]) (pc' := 389) (hb hy at_387) rfl rfl rfl ?_
        refine o_goto W184 (pc' := 395) (hb hy at_389) (by decide) rfl ?_
        refine o_goto W184 (pc' := 503) (hb hy at_395) (by decide) rfl ?_
        refine o_aload W184 (pc' := 505) (hb hy at_503) rfl rfl rfl ?_
        refine o_static W184 (y := (⟨"com/example/sessn/sessn/session/Weights", "labelled", "(Ljava/lang/String;)Lcom/example/sessn/sessn/session/Weights;"⟩ : MethodName)) (w34 hw) (w35 hw) (w2 hw) (w36 hw) (by decide) (argsL := [(.ref b181)]) (CtrN.back (Wd := 0) W184 (rm4 l Z a0 hw gCS gO1 gO2 gO4 gO6 gO8 gO9 gO10 gO11 gO12 gO13 k_gO2 k_gO9 k_gO11 k_gO13 b181 t184 kb184 [(100 : Int32), (105 : Int32), (115 : Int32), (116 : Int32), (97 : Int32), (110 : Int32), (99 : Int32), (101 : Int32)] h184 W184.old SgO2__VALUES VgO2 XgO2 FitgO2 FgO1_label SgCS NgCS XgO8 FgO8_value FgO8_coder VgO9 X184 Fv184 Fc184 B184 ok183 (own_eqN (by simp)) FgO4_label XgO10 FgO10_value FgO10_coder VgO11 (own_eqN (by simp)) FgO6_label XgO12 FgO12_value FgO12_coder VgO13 (own_eqne _)) (w36 hw) (w2 hw) (by decide) (by decide)) (by rw [hml]; rfl) (lenOf pd3 rfl) (S := []) rfl (by exact Nat.le_of_eq rfl) (pc' := 508) (hb hy at_505) rfl (cells' := 9) (slots' := 60) rfl rfl (by decide) (by decide) (wy := []) (fun _ _ _ q => ⟨q.1, q.2.1⟩) all0 (fun _ _ => trivial) ?_
        intro v185 T185 h185 lo185 W185 K185 q185
        obtain rfl := q185.2.2
        show Gl _ _ _ _ _ _ _ _ [(.ref gO6)]
        refine o_aload W185 (pc' := 510) (hb hy at_508) rfl rfl rfl ?_
        refine o_acmpN W185 (pc' := 513) (hb hy at_510) rfl rfl (XT.aa_ne_f rfl) rfl ?_
        refine o_iconst W185 (v := 1) (pc' := 514) (hb hy at_513) rfl rfl ?_
        refine o_goto W185 (pc' := 518) (hb hy at_514) (by decide) rfl ?_
        exact o_retN W185 hlk (t := .boolean) hret (by simp) (z' := (1 : Int32)) (by decide) (hb hy at_518) (by decide) (by decide) rfl
      · refine o_irem W156 (v := 5) (pc' := 341) (hb hy at_340) (by decide) ek160 rfl ?_
        refine o_istore W156 (L' := #[.val (.int p0), .val (.int p1), .val (.int p2), .val (.int p3), .val (.int 2), .val (.int 0), .val (.int (p2 &&& (255 : Int32))), .val (.ref b1), .val (.ref b9), .val (.ref b22), .val (.ref b31), .val (.ref b32), .val (.ref b40), .unset, .unset, .val (.ref b22), .val (.ref gO6), .val (.int 5), .unset]) (pc' := 343) (hb hy at_341) rfl rfl ?_
        refine o_aload W156 (pc' := 345) (hb hy at_343) rfl rfl rfl ?_
        refine o_iload W156 (pc' := 347) (hb hy at_345) rfl rfl ?_
        refine o_caload W156 c159 (x := (110 : Int32)) (i := 5) (by decide) (by decide) (by decide) rfl (pc' := 348) (hb hy at_347) rfl ?_
        refine o_istore W156 (L' := #[.val (.int p0), .val (.int p1), .val (.int p2), .val (.int p3), .val (.int 2), .val (.int 0), .val (.int (p2 &&& (255 : Int32))), .val (.ref b1), .val (.ref b9), .val (.ref b22), .val (.ref b31), .val (.ref b32), .val (.ref b40), .unset, .unset, .val (.ref b22), .val (.ref gO6), .val (.int 5), .val (.int 110)]) (pc' := 350) (hb hy at_348) rfl rfl ?_
        refine o_iload W156 (pc' := 352) (hb hy at_350) rfl rfl ?_
        refine o_ifY W156 (pc' := 362) (hb hy at_352) (XT.i0_eq_t (by decide)) (by decide) rfl ?_
        refine o_new W156 (w5 hw) (w6 hw) (w7 hw) (fun _ _ => trivial) (pc' := 365) (hb hy at_362) rfl (cells' := 7) (slots' := 49) rfl rfl (by decide) (by decide) ?_
        intro b186 T186 h186 W186 E186 ge186 gz186 gb186 A186 D186
        have Fb186_coder : Fld Z h186 b186 "java/lang/String" "coder" "B" (.int 0) := D186 (Or.inr (w31 hw)) (ty := .byte) (by decide)
        have Fb186_value : Fld Z h186 b186 "java/lang/String" "value" "[B" .null := D186 (Or.inr (w33 hw)) (ty := (.array .byte)) (by decide)
        refine o_dup W186 (pc' := 366) (hb hy at_365) rfl rfl ?_
        refine o_aload W186 (pc' := 368) (hb hy at_366) rfl rfl rfl ?_
        have c187 := (c159.ext E186)
        have ok188 : own_ok [(100 : Int32), (105 : Int32), (115 : Int32), (116 : Int32), (97 : Int32), (110 : Int32), (99 : Int32), (101 : Int32)] := ⟨by simp only [List.mem_cons, List.not_mem_nil, or_false, forall_eq_or_imp, forall_eq, false_imp_iff, implies_true]; exact ⟨(by unfold own_b; decide), (by unfold own_b; decide), (by unfold own_b; decide), (by unfold own_b; decide), (by unfold own_b; decide), (by unfold own_b; decide), (by unfold own_b; decide), (by unfold own_b; decide)⟩, Nat.le_of_ble_eq_true rfl⟩
        refine o_special W186 (y := (⟨"java/lang/String", "<init>", "([C)V"⟩ : MethodName)) rfl (w8 hw) (w9 hw) (w10 hw) (by decide) (a := b186) (argsL := [(.ref b22)]) (StrChars.Road.backV (W := 1) W186.2.2.2.1 (own_hV hw) (kI := 4) (w6 hw) (cs := [(100 : Int32), (105 : Int32), (115 : Int32), (116 : Int32), (97 : Int32), (110 : Int32), (99 : Int32), (101 : Int32)]) (bs := [((100 : Int32)).toInt8.toInt32, ((105 : Int32)).toInt8.toInt32, ((115 : Int32)).toInt8.toInt32, ((116 : Int32)).toInt8.toInt32, ((97 : Int32)).toInt8.toInt32, ((110 : Int32)).toInt8.toInt32, ((99 : Int32)).toInt8.toInt32, ((101 : Int32)).toInt8.toInt32]) (n := 8) (n0 := Z.heap.size) gz186 W186.zs A186 Fb186_value Fb186_coder c187 (SgCS.ext W186.ox) NgCS rfl rfl (by decide) (by decide) ok188.1 rfl (by decide) (by decide)) (by rw [hml]; rfl) (lenOf pd0 rfl) (S := [(.ref b186)]) rfl (by exact Nat.le_of_eq rfl) (pc' := 371) (hb hy at_368) rfl (cells' := 8) (slots' := 57) rfl rfl (by decide) (by decide) (wy := [b186]) (fun _ _ _ q => ⟨q.2.1, q.2.2.1⟩) (allS ⟨gz186, (Or.inr gb186)⟩ all0) (fun _ _ => trivial) ?_
        intro v189 T189 h189 lo189 W189 K189 q189
        obtain ⟨rfl, -, -, X189, Fc189, t189, kb189, gz189, ge189, -, Fv189, A189⟩ := q189
        have B189 : Arv Z h189 t189 kb189 .byte (8 : Int32) [(.int (StrChars.lo8 (100 : Int32))), (.int (StrChars.lo8 (105 : Int32))), (.int (StrChars.lo8 (115 : Int32))), (.int (StrChars.lo8 (116 : Int32))), (.int (StrChars.lo8 (97 : Int32))), (.int (StrChars.lo8 (110 : Int32))), (.int (StrChars.lo8 (99 : Int32))), (.int (StrChars.lo8 (101 : Int32)))] (.int 0) := A189
        show Gl _ _ _ _ _ _ _ _ [(.ref b186)]
        refine o_astore W189 (L' := #[.val (.int p0), .val (.int p1), .val (.int p2), .val (.int p3), .val (.int 2), .val (.int 0), .val (.int (p2 &&& (255 : Int32))), .val (.ref b1), .val (.ref b9), .val (.ref b22), .val (.ref b31), .val (.ref b32), .val (.ref b40), .val (.ref b186), .unset, .val (.ref b22), .val (.ref gO6), .val (.int 5), .val (.int 110)]) (pc' := 373) (hb hy at_371) rfl rfl rfl ?_
        refine o_iload W189 (pc' := 375) (hb hy at_373) rfl rfl ?_
        refine o_ifY W189 (pc' := 385) (hb hy at_375) (XT.i0_eq_t (by decide)) (by decide) rfl ?_
        refine o_aload W189 (pc' := 387) (hb hy at_385) rfl rfl rfl ?_
        refine o_astore W189 (L' := #[.val (.int p0), .val (.int p1), .val (.int p2), .val (.int p3), .val (.int 2), .val (.int 0), .val (.int (p2 &&& (255 : Int32))), .val (.ref b1), .val (.ref b9), .val (.ref b22), .val (.ref b31), .val (.ref b32), .val (.ref b40), .val (.ref b186), .val (.ref gO6), .val (.ref b22), .val (.ref gO6), .val (.int 5), .val (.int 110)]) (pc' := 389) (hb hy at_387) rfl rfl rfl ?_
        refine o_goto W189 (pc' := 395) (hb hy at_389) (by decide) rfl ?_
        refine o_goto W189 (pc' := 503) (hb hy at_395) (by decide) rfl ?_
        refine o_aload W189 (pc' := 505) (hb hy at_503) rfl rfl rfl ?_
        refine o_static W189 (y := (⟨"com/example/sessn/sessn/session/Weights", "labelled", "(Ljava/lang/String;)Lcom/example/sessn/sessn/session/Weights;"⟩ : MethodName)) (w34 hw) (w35 hw) (w2 hw) (w36 hw) (by decide) (argsL := [(.ref b186)]) (CtrN.back (Wd := 0) W189 (rm4 l Z a0 hw gCS gO1 gO2 gO4 gO6 gO8 gO9 gO10 gO11 gO12 gO13 k_gO2 k_gO9 k_gO11 k_gO13 b186 t189 kb189 [(100 : Int32), (105 : Int32), (115 : Int32), (116 : Int32), (97 : Int32), (110 : Int32), (99 : Int32), (101 : Int32)] h189 W189.old SgO2__VALUES VgO2 XgO2 FitgO2 FgO1_label SgCS NgCS XgO8 FgO8_value FgO8_coder VgO9 X189 Fv189 Fc189 B189 ok188 (own_eqN (by simp)) FgO4_label XgO10 FgO10_value FgO10_coder VgO11 (own_eqN (by simp)) FgO6_label XgO12 FgO12_value FgO12_coder VgO13 (own_eqne _)) (w36 hw) (w2 hw) (by decide) (by decide)) (by rw [hml]; rfl) (lenOf pd3 rfl) (S := []) rfl (by exact Nat.le_of_eq rfl) (pc' := 508) (hb hy at_505) rfl (cells' := 9) (slots' := 60) rfl rfl (by decide) (by decide) (wy := []) (fun _ _ _ q => ⟨q.1, q.2.1⟩) all0 (fun _ _ => trivial) ?_
        intro v190 T190 h190 lo190 W190 K190 q190
        obtain rfl := q190.2.2
        show Gl _ _ _ _ _ _ _ _ [(.ref gO6)]
        refine o_aload W190 (pc' := 510) (hb hy at_508) rfl rfl rfl ?_
        refine o_acmpN W190 (pc' := 513) (hb hy at_510) rfl rfl (XT.aa_ne_f rfl) rfl ?_
        refine o_iconst W190 (v := 1) (pc' := 514) (hb hy at_513) rfl rfl ?_
        refine o_goto W190 (pc' := 518) (hb hy at_514) (by decide) rfl ?_
        exact o_retN W190 hlk (t := .boolean) hret (by simp) (z' := (1 : Int32)) (by decide) (hb hy at_518) (by decide) (by decide) rfl
      · refine o_irem W156 (v := 6) (pc' := 341) (hb hy at_340) (by decide) ek160 rfl ?_
        refine o_istore W156 (L' := #[.val (.int p0), .val (.int p1), .val (.int p2), .val (.int p3), .val (.int 2), .val (.int 0), .val (.int (p2 &&& (255 : Int32))), .val (.ref b1), .val (.ref b9), .val (.ref b22), .val (.ref b31), .val (.ref b32), .val (.ref b40), .unset, .unset, .val (.ref b22), .val (.ref gO6), .val (.int 6), .unset]) (pc' := 343) (hb hy at_341) rfl rfl ?_
        refine o_aload W156 (pc' := 345) (hb hy at_343) rfl rfl rfl ?_
        refine o_iload W156 (pc' := 347) (hb hy at_345) rfl rfl ?_
        refine o_caload W156 c159 (x := (99 : Int32)) (i := 6) (by decide) (by decide) (by decide) rfl (pc' := 348) (hb hy at_347) rfl ?_
        refine o_istore W156 (L' := #[.val (.int p0), .val (.int p1), .val (.int p2), .val (.int p3), .val (.int 2), .val (.int 0), .val (.int (p2 &&& (255 : Int32))), .val (.ref b1), .val (.ref b9), .val (.ref b22), .val (.ref b31), .val (.ref b32), .val (.ref b40), .unset, .unset, .val (.ref b22), .val (.ref gO6), .val (.int 6), .val (.int 99)]) (pc' := 350) (hb hy at_348) rfl rfl ?_
        refine o_iload W156 (pc' := 352) (hb hy at_350) rfl rfl ?_
        refine o_ifY W156 (pc' := 362) (hb hy at_352) (XT.i0_eq_t (by decide)) (by decide) rfl ?_
        refine o_new W156 (w5 hw) (w6 hw) (w7 hw) (fun _ _ => trivial) (pc' := 365) (hb hy at_362) rfl (cells' := 7) (slots' := 49) rfl rfl (by decide) (by decide) ?_
        intro b191 T191 h191 W191 E191 ge191 gz191 gb191 A191 D191
        have Fb191_coder : Fld Z h191 b191 "java/lang/String" "coder" "B" (.int 0) := D191 (Or.inr (w31 hw)) (ty := .byte) (by decide)
        have Fb191_value : Fld Z h191 b191 "java/lang/String" "value" "[B" .null := D191 (Or.inr (w33 hw)) (ty := (.array .byte)) (by decide)
        refine o_dup W191 (pc' := 366) (hb hy at_365) rfl rfl ?_
        refine o_aload W191 (pc' := 368) (hb hy at_366) rfl rfl rfl ?_
        have c192 := (c159.ext E191)
        have ok193 : own_ok [(100 : Int32), (105 : Int32), (115 : Int32), (116 : Int32), (97 : Int32), (110 : Int32), (99 : Int32), (101 : Int32)] := ⟨by simp only [List.mem_cons, List.not_mem_nil, or_false, forall_eq_or_imp, forall_eq, false_imp_iff, implies_true]; exact ⟨(by unfold own_b; decide), (by unfold own_b; decide), (by unfold own_b; decide), (by unfold own_b; decide), (by unfold own_b; decide), (by unfold own_b; decide), (by unfold own_b; decide), (by unfold own_b; decide)⟩, Nat.le_of_ble_eq_true rfl⟩
        refine o_special W191 (y := (⟨"java/lang/String", "<init>", "([C)V"⟩ : MethodName)) rfl (w8 hw) (w9 hw) (w10 hw) (by decide) (a := b191) (argsL := [(.ref b22)]) (StrChars.Road.backV (W := 1) W191.2.2.2.1 (own_hV hw) (kI := 4) (w6 hw) (cs := [(100 : Int32), (105 : Int32), (115 : Int32), (116 : Int32), (97 : Int32), (110 : Int32), (99 : Int32), (101 : Int32)]) (bs := [((100 : Int32)).toInt8.toInt32, ((105 : Int32)).toInt8.toInt32, ((115 : Int32)).toInt8.toInt32, ((116 : Int32)).toInt8.toInt32, ((97 : Int32)).toInt8.toInt32, ((110 : Int32)).toInt8.toInt32, ((99 : Int32)).toInt8.toInt32, ((101 : Int32)).toInt8.toInt32]) (n := 8) (n0 := Z.heap.size) gz191 W191.zs A191 Fb191_value Fb191_coder c192 (SgCS.ext W191.ox) NgCS rfl rfl (by decide) (by decide) ok193.1 rfl (by decide) (by decide)) (by rw [hml]; rfl) (lenOf pd0 rfl) (S := [(.ref b191)]) rfl (by exact Nat.le_of_eq rfl) (pc' := 371) (hb hy at_368) rfl (cells' := 8) (slots' := 57) rfl rfl (by decide) (by decide) (wy := [b191]) (fun _ _ _ q => ⟨q.2.1, q.2.2.1⟩) (allS ⟨gz191, (Or.inr gb191)⟩ all0) (fun _ _ => trivial) ?_
        intro v194 T194 h194 lo194 W194 K194 q194
        obtain ⟨rfl, -, -, X194, Fc194, t194, kb194, gz194, ge194, -, Fv194, A194⟩ := q194
        have B194 : Arv Z h194 t194 kb194 .byte (8 : Int32) [(.int (StrChars.lo8 (100 : Int32))), (.int (StrChars.lo8 (105 : Int32))), (.int (StrChars.lo8 (115 : Int32))), (.int (StrChars.lo8 (116 : Int32))), (.int (StrChars.lo8 (97 : Int32))), (.int (StrChars.lo8 (110 : Int32))), (.int (StrChars.lo8 (99 : Int32))), (.int (StrChars.lo8 (101 : Int32)))] (.int 0) := A194
        show Gl _ _ _ _ _ _ _ _ [(.ref b191)]
        refine o_astore W194 (L' := #[.val (.int p0), .val (.int p1), .val (.int p2), .val (.int p3), .val (.int 2), .val (.int 0), .val (.int (p2 &&& (255 : Int32))), .val (.ref b1), .val (.ref b9), .val (.ref b22), .val (.ref b31), .val (.ref b32), .val (.ref b40), .val (.ref b191), .unset, .val (.ref b22), .val (.ref gO6), .val (.int 6), .val (.int 99)]) (pc' := 373) (hb hy at_371) rfl rfl rfl ?_
        refine o_iload W194 (pc' := 375) (hb hy at_373) rfl rfl ?_
        refine o_ifY W194 (pc' := 385) (hb hy at_375) (XT.i0_eq_t (by decide)) (by decide) rfl ?_
        refine o_aload W194 (pc' := 387) (hb hy at_385) rfl rfl rfl ?_
        refine o_astore W194 (L' := #[.val (.int p0), .val (.int p1), .val (.int p2), .val (.int p3), .val (.int 2), .val (.int 0), .val (.int (p2 &&& (255 : Int32))), .val (.ref b1), .val (.ref b9), .val (.ref b22), .val (.ref b31), .val (.ref b32), .val (.ref b40), .val (.ref b191), .val (.ref gO6), .val (.ref b22), .val (.ref gO6), .val (.int 6), .val (.int 99)]) (pc' := 389) (hb hy at_387) rfl rfl rfl ?_
        refine o_goto W194 (pc' := 395) (hb hy at_389) (by decide) rfl ?_
        refine o_goto W194 (pc' := 503) (hb hy at_395) (by decide) rfl ?_
        refine o_aload W194 (pc' := 505) (hb hy at_503) rfl rfl rfl ?_
        refine o_static W194 (y := (⟨"com/example/sessn/sessn/session/Weights", "labelled", "(Ljava/lang/String;)Lcom/example/sessn/sessn/session/Weights;"⟩ : MethodName)) (w34 hw) (w35 hw) (w2 hw) (w36 hw) (by decide) (argsL := [(.ref b191)]) (CtrN.back (Wd := 0) W194 (rm4 l Z a0 hw gCS gO1 gO2 gO4 gO6 gO8 gO9 gO10 gO11 gO12 gO13 k_gO2 k_gO9 k_gO11 k_gO13 b191 t194 kb194 [(100 : Int32), (105 : Int32), (115 : Int32), (116 : Int32), (97 : Int32), (110 : Int32), (99 : Int32), (101 : Int32)] h194 W194.old SgO2__VALUES VgO2 XgO2 FitgO2 FgO1_label SgCS NgCS XgO8 FgO8_value FgO8_coder VgO9 X194 Fv194 Fc194 B194 ok193 (own_eqN (by simp)) FgO4_label XgO10 FgO10_value FgO10_coder VgO11 (own_eqN (by simp)) FgO6_label XgO12 FgO12_value FgO12_coder VgO13 (own_eqne _)) (w36 hw) (w2 hw) (by decide) (by decide)) (by rw [hml]; rfl) (lenOf pd3 rfl) (S := []) rfl (by exact Nat.le_of_eq rfl) (pc' := 508) (hb hy at_505) rfl (cells' := 9) (slots' := 60) rfl rfl (by decide) (by decide) (wy := []) (fun _ _ _ q => ⟨q.1, q.2.1⟩) all0 (fun _ _ => trivial) ?_
        intro v195 T195 h195 lo195 W195 K195 q195
        obtain rfl := q195.2.2
        show Gl _ _ _ _ _ _ _ _ [(.ref gO6)]
        refine o_aload W195 (pc' := 510) (hb hy at_508) rfl rfl rfl ?_
        refine o_acmpN W195 (pc' := 513) (hb hy at_510) rfl rfl (XT.aa_ne_f rfl) rfl ?_
        refine o_iconst W195 (v := 1) (pc' := 514) (hb hy at_513) rfl rfl ?_
        refine o_goto W195 (pc' := 518) (hb hy at_514) (by decide) rfl ?_
        exact o_retN W195 hlk (t := .boolean) hret (by simp) (z' := (1 : Int32)) (by decide) (hb hy at_518) (by decide) (by decide) rfl
      · refine o_irem W156 (v := 7) (pc' := 341) (hb hy at_340) (by decide) ek160 rfl ?_
        refine o_istore W156 (L' := #[.val (.int p0), .val (.int p1), .val (.int p2), .val (.int p3), .val (.int 2), .val (.int 0), .val (.int (p2 &&& (255 : Int32))), .val (.ref b1), .val (.ref b9), .val (.ref b22), .val (.ref b31), .val (.ref b32), .val (.ref b40), .unset, .unset, .val (.ref b22), .val (.ref gO6), .val (.int 7), .unset]) (pc' := 343) (hb hy at_341) rfl rfl ?_
        refine o_aload W156 (pc' := 345) (hb hy at_343) rfl rfl rfl ?_
        refine o_iload W156 (pc' := 347) (hb hy at_345) rfl rfl ?_
        refine o_caload W156 c159 (x := (101 : Int32)) (i := 7) (by decide) (by decide) (by decide) rfl (pc' := 348) (hb hy at_347) rfl ?_
        refine o_istore W156 (L' := #[.val (.int p0), .val (.int p1), .val (.int p2), .val (.int p3), .val (.int 2), .val (.int 0), .val (.int (p2 &&& (255 : Int32))), .val (.ref b1), .val (.ref b9), .val (.ref b22), .val (.ref b31), .val (.ref b32), .val (.ref b40), .unset, .unset, .val (.ref b22), .val (.ref gO6), .val (.int 7), .val (.int 101)]) (pc' := 350) (hb hy at_348) rfl rfl ?_
        refine o_iload W156 (pc' := 352) (hb hy at_350) rfl rfl ?_
        refine o_ifY W156 (pc' := 362) (hb hy at_352) (XT.i0_eq_t (by decide)) (by decide) rfl ?_
        refine o_new W156 (w5 hw) (w6 hw) (w7 hw) (fun _ _ => trivial) (pc' := 365) (hb hy at_362) rfl (cells' := 7) (slots' := 49) rfl rfl (by decide) (by decide) ?_
        intro b196 T196 h196 W196 E196 ge196 gz196 gb196 A196 D196
        have Fb196_coder : Fld Z h196 b196 "java/lang/String" "coder" "B" (.int 0) := D196 (Or.inr (w31 hw)) (ty := .byte) (by decide)
        have Fb196_value : Fld Z h196 b196 "java/lang/String" "value" "[B" .null := D196 (Or.inr (w33 hw)) (ty := (.array .byte)) (by decide)
        refine o_dup W196 (pc' := 366) (hb hy at_365) rfl rfl ?_
        refine o_aload W196 (pc' := 368) (hb hy at_366) rfl rfl rfl ?_
        have c197 := (c159.ext E196)
        have ok198 : own_ok [(100 : Int32), (105 : Int32), (115 : Int32), (116 : Int32), (97 : Int32), (110 : Int32), (99 : Int32), (101 : Int32)] := ⟨by simp only [List.mem_cons, List.not_mem_nil, or_false, forall_eq_or_imp, forall_eq, false_imp_iff, implies_true]; exact ⟨(by unfold own_b; decide), (by unfold own_b; decide), (by unfold own_b; decide), (by unfold own_b; decide), (by unfold own_b; decide), (by unfold own_b; decide), (by unfold own_b; decide), (by unfold own_b; decide)⟩, Nat.le_of_ble_eq_true rfl⟩
        refine o_special W196 (y := (⟨"java/lang/String", "<init>", "([C)V"⟩ : MethodName)) rfl (w8 hw) (w9 hw) (w10 hw) (by decide) (a := b196) (argsL := [(.ref b22)]) (StrChars.Road.backV (W := 1) W196.2.2.2.1 (own_hV hw) (kI := 4) (w6 hw) (cs := [(100 : Int32), (105 : Int32), (115 : Int32), (116 : Int32), (97 : Int32), (110 : Int32), (99 : Int32), (101 : Int32)]) (bs := [((100 : Int32)).toInt8.toInt32, ((105 : Int32)).toInt8.toInt32, ((115 : Int32)).toInt8.toInt32, ((116 : Int32)).toInt8.toInt32, ((97 : Int32)).toInt8.toInt32, ((110 : Int32)).toInt8.toInt32, ((99 : Int32)).toInt8.toInt32, ((101 : Int32)).toInt8.toInt32]) (n := 8) (n0 := Z.heap.size) gz196 W196.zs A196 Fb196_value Fb196_coder c197 (SgCS.ext W196.ox) NgCS rfl rfl (by decide) (by decide) ok198.1 rfl (by decide) (by decide)) (by rw [hml]; rfl) (lenOf pd0 rfl) (S := [(.ref b196)]) rfl (by exact Nat.le_of_eq rfl) (pc' := 371) (hb hy at_368) rfl (cells' := 8) (slots' := 57) rfl rfl (by decide) (by decide) (wy := [b196]) (fun _ _ _ q => ⟨q.2.1, q.2.2.1⟩) (allS ⟨gz196, (Or.inr gb196)⟩ all0) (fun _ _ => trivial) ?_
        intro v199 T199 h199 lo199 W199 K199 q199
        obtain ⟨rfl, -, -, X199, Fc199, t199, kb199, gz199, ge199, -, Fv199, A199⟩ := q199
        have B199 : Arv Z h199 t199 kb199 .byte (8 : Int32) [(.int (StrChars.lo8 (100 : Int32))), (.int (StrChars.lo8 (105 : Int32))), (.int (StrChars.lo8 (115 : Int32))), (.int (StrChars.lo8 (116 : Int32))), (.int (StrChars.lo8 (97 : Int32))), (.int (StrChars.lo8 (110 : Int32))), (.int (StrChars.lo8 (99 : Int32))), (.int (StrChars.lo8 (101 : Int32)))] (.int 0) := A199
        show Gl _ _ _ _ _ _ _ _ [(.ref b196)]
        refine o_astore W199 (L' := #[.val (.int p0), .val (.int p1), .val (.int p2), .val (.int p3), .val (.int 2), .val (.int 0), .val (.int (p2 &&& (255 : Int32))), .val (.ref b1), .val (.ref b9), .val (.ref b22), .val (.ref b31), .val (.ref b32), .val (.ref b40), .val (.ref b196), .unset, .val (.ref b22), .val (.ref gO6), .val (.int 7), .val (.int 101)]) (pc' := 373) (hb hy at_371) rfl rfl rfl ?_
        refine o_iload W199 (pc' := 375) (hb hy at_373) rfl rfl ?_
        refine o_ifY W199 (pc' := 385) (hb hy at_375) (XT.i0_eq_t (by decide)) (by decide) rfl ?_
        refine o_aload W199 (pc' := 387) (hb hy at_385) rfl rfl rfl ?_
        refine o_astore W199 (L' := #[.val (.int p0), .val (.int p1), .val (.int p2), .val (.int p3), .val (.int 2), .val (.int 0), .val (.int (p2 &&& (255 : Int32))), .val (.ref b1), .val (.ref b9), .val (.ref b22), .val (.ref b31), .val (.ref b32), .val (.ref b40), .val (.ref b196), .val (.ref gO6), .val (.ref b22), .val (.ref gO6), .val (.int 7), .val (.int 101)]) (pc' := 389) (hb hy at_387) rfl rfl rfl ?_
        refine o_goto W199 (pc' := 395) (hb hy at_389) (by decide) rfl ?_
        refine o_goto W199 (pc' := 503) (hb hy at_395) (by decide) rfl ?_
        refine o_aload W199 (pc' := 505) (hb hy at_503) rfl rfl rfl ?_
        refine o_static W199 (y := (⟨"com/example/sessn/sessn/session/Weights", "labelled", "(Ljava/lang/String;)Lcom/example/sessn/sessn/session/Weights;"⟩ : MethodName)) (w34 hw) (w35 hw) (w2 hw) (w36 hw) (by decide) (argsL := [(.ref b196)]) (CtrN.back (Wd := 0) W199 (rm4 l Z a0 hw gCS gO1 gO2 gO4 gO6 gO8 gO9 gO10 gO11 gO12 gO13 k_gO2 k_gO9 k_gO11 k_gO13 b196 t199 kb199 [(100 : Int32), (105 : Int32), (115 : Int32), (116 : Int32), (97 : Int32), (110 : Int32), (99 : Int32), (101 : Int32)] h199 W199.old SgO2__VALUES VgO2 XgO2 FitgO2 FgO1_label SgCS NgCS XgO8 FgO8_value FgO8_coder VgO9 X199 Fv199 Fc199 B199 ok198 (own_eqN (by simp)) FgO4_label XgO10 FgO10_value FgO10_coder VgO11 (own_eqN (by simp)) FgO6_label XgO12 FgO12_value FgO12_coder VgO13 (own_eqne _)) (w36 hw) (w2 hw) (by decide) (by decide)) (by rw [hml]; rfl) (lenOf pd3 rfl) (S := []) rfl (by exact Nat.le_of_eq rfl) (pc' := 508) (hb hy at_505) rfl (cells' := 9) (slots' := 60) rfl rfl (by decide) (by decide) (wy := []) (fun _ _ _ q => ⟨q.1, q.2.1⟩) all0 (fun _ _ => trivial) ?_
        intro v200 T200 h200 lo200 W200 K200 q200
        obtain rfl := q200.2.2
        show Gl _ _ _ _ _ _ _ _ [(.ref gO6)]
        refine o_aload W200 (pc' := 510) (hb hy at_508) rfl rfl rfl ?_
        refine o_acmpN W200 (pc' := 513) (hb hy at_510) rfl rfl (XT.aa_ne_f rfl) rfl ?_
        refine o_iconst W200 (v := 1) (pc' := 514) (hb hy at_513) rfl rfl ?_
        refine o_goto W200 (pc' := 518) (hb hy at_514) (by decide) rfl ?_
        exact o_retN W200 hlk (t := .boolean) hret (by simp) (z' := (1 : Int32)) (by decide) (hb hy at_518) (by decide) (by decide) rfl
    · rw [ek49]
      refine o_iload W48 (pc' := 285) (hb hy at_283) rfl rfl ?_
      refine o_iconst W48 (v := 3) (pc' := 286) (hb hy at_285) rfl rfl ?_
      refine o_icmpY W48 (pc' := 398) (hb hy at_286) (XT.ii_ge_t (by decide)) (by decide) rfl ?_
      refine o_iloadN W48 (pc' := 399) (hb hy at_398) rfl rfl ?_
      refine o_iconst W48 (v := 2) (pc' := 400) (hb hy at_399) rfl rfl ?_
      refine o_iushr W48 (v := ((p0.toUInt32 >>> ((2 : Int32) &&& 31).toUInt32).toInt32)) (pc' := 401) (hb hy at_400) rfl rfl ?_
      refine o_iconst W48 (v := 3) (pc' := 402) (hb hy at_401) rfl rfl ?_
      rcases own_and3 ((p0.toUInt32 >>> ((2 : Int32) &&& 31).toUInt32).toInt32) with ek201 | ek201 | ek201 | ek201
      · refine o_iand W48 (v := 0) (pc' := 403) (hb hy at_402) ek201 rfl ?_
        refine o_istore W48 (L' := #[.val (.int p0), .val (.int p1), .val (.int p2), .val (.int p3), .val (.int 3), .val (.int 0), .val (.int (p2 &&& (255 : Int32))), .val (.ref b1), .val (.ref b9), .val (.ref b22), .val (.ref b31), .val (.ref b32), .val (.ref b40), .unset, .unset, .val (.int 0), .unset, .unset, .unset]) (pc' := 405) (hb hy at_403) rfl rfl ?_
        refine o_aconstNull W48 (pc' := 406) (hb hy at_405) rfl ?_
        refine o_astore W48 (L' := #[.val (.int p0), .val (.int p1), .val (.int p2), .val (.int p3), .val (.int 3), .val (.int 0), .val (.int (p2 &&& (255 : Int32))), .val (.ref b1), .val (.ref b9), .val (.ref b22), .val (.ref b31), .val (.ref b32), .val (.ref b40), .unset, .val .null, .val (.int 0), .unset, .unset, .unset]) (pc' := 408) (hb hy at_406) rfl rfl rfl ?_
        refine o_iload W48 (pc' := 410) (hb hy at_408) rfl rfl ?_
        refine o_ifN W48 (pc' := 413) (hb hy at_410) (XT.i0_ne_f (by decide)) rfl ?_
        refine o_aconstNull W48 (pc' := 414) (hb hy at_413) rfl ?_
        refine o_astore W48 (L' := #[.val (.int p0), .val (.int p1), .val (.int p2), .val (.int p3), .val (.int 3), .val (.int 0), .val (.int (p2 &&& (255 : Int32))), .val (.ref b1), .val (.ref b9), .val (.ref b22), .val (.ref b31), .val (.ref b32), .val (.ref b40), .val .null, .val .null, .val (.int 0), .unset, .unset, .unset]) (pc' := 416) (hb hy at_414) rfl rfl rfl ?_
        refine o_goto W48 (pc' := 503) (hb hy at_416) (by decide) rfl ?_
        refine o_aload W48 (pc' := 505) (hb hy at_503) rfl rfl rfl ?_
        refine o_static W48 (y := (⟨"com/example/sessn/sessn/session/Weights", "labelled", "(Ljava/lang/String;)Lcom/example/sessn/sessn/session/Weights;"⟩ : MethodName)) (w34 hw) (w35 hw) (w2 hw) (w36 hw) (by decide) (argsL := [.null]) (CtrN.back (Wd := 0) W48 (rm8 l Z a0 hw gO1 gO2 gO4 gO6 gO8 gO10 gO12 k_gO2 h48 W48.old SgO2__VALUES VgO2 XgO2 FitgO2 FgO1_label XgO8 FgO4_label XgO10 FgO6_label XgO12) (w36 hw) (w2 hw) (by decide) (by decide)) (by rw [hml]; rfl) (lenOf pd3 rfl) (S := []) rfl (by exact Nat.le_of_eq rfl) (pc' := 508) (hb hy at_505) rfl (cells' := 7) (slots' := 48) rfl rfl (by decide) (by decide) (wy := []) (fun _ _ _ q => ⟨q.1, q.2.1⟩) all0 (fun _ _ => trivial) ?_
        intro v202 T202 h202 lo202 W202 K202 q202
        obtain rfl := q202.2.2
        show Gl _ _ _ _ _ _ _ _ [.null]
        refine o_aload W202 (pc' := 510) (hb hy at_508) rfl rfl rfl ?_
        refine o_acmpN W202 (pc' := 513) (hb hy at_510) rfl rfl (XT.aa_ne_f rfl) rfl ?_
        refine o_iconst W202 (v := 1) (pc' := 514) (hb hy at_513) rfl rfl ?_
        refine o_goto W202 (pc' := 518) (hb hy at_514) (by decide) rfl ?_
        exact o_retN W202 hlk (t := .boolean) hret (by simp) (z' := (1 : Int32)) (by decide) (hb hy at_518) (by decide) (by decide) rfl
      · refine o_iand W48 (v := 1) (pc' := 403) (hb hy at_402) ek201 rfl ?_
        refine o_istore W48 (L' := #[.val (.int p0), .val (.int p1), .val (.int p2), .val (.int p3), .val (.int 3), .val (.int 0), .val (.int (p2 &&& (255 : Int32))), .val (.ref b1), .val (.ref b9), .val (.ref b22), .val (.ref b31), .val (.ref b32), .val (.ref b40), .unset, .unset, .val (.int 1), .unset, .unset, .unset]) (pc' := 405) (hb hy at_403) rfl rfl ?_
        refine o_aconstNull W48 (pc' := 406) (hb hy at_405) rfl ?_
        refine o_astore W48 (L' := #[.val (.int p0), .val (.int p1), .val (.int p2), .val (.int p3), .val (.int 3), .val (.int 0), .val (.int (p2 &&& (255 : Int32))), .val (.ref b1), .val (.ref b9), .val (.ref b22), .val (.ref b31), .val (.ref b32), .val (.ref b40), .unset, .val .null, .val (.int 1), .unset, .unset, .unset]) (pc' := 408) (hb hy at_406) rfl rfl rfl ?_
        refine o_iload W48 (pc' := 410) (hb hy at_408) rfl rfl ?_
        refine o_ifY W48 (pc' := 419) (hb hy at_410) (XT.i0_ne_t (by decide)) (by decide) rfl ?_
        refine o_iload W48 (pc' := 421) (hb hy at_419) rfl rfl ?_
        refine o_iconst W48 (v := 1) (pc' := 422) (hb hy at_421) rfl rfl ?_
        refine o_icmpN W48 (pc' := 425) (hb hy at_422) (XT.ii_ne_f (by decide)) rfl ?_
        refine o_aload W48 (pc' := 427) (hb hy at_425) rfl rfl rfl ?_
        refine o_iconst W48 (v := 0) (pc' := 428) (hb hy at_427) rfl rfl ?_
        refine o_iload W48 (pc' := 430) (hb hy at_428) rfl rfl ?_
        have c203 := ((((((((V31.ext E32).other R33 (own_ne V31.lt ge32)).other R34 (own_ne V31.lt ge32)).other R35 (own_ne V31.lt ge32)).other R36 (own_ne V31.lt ge32)).other R37 (own_ne V31.lt ge32)).other R38 (own_ne V31.lt ge32)).other R39 (own_ne V31.lt ge32))
        have c204 := (((((((((((((((((V31.ext E32).other R33 (own_ne V31.lt ge32)).other R34 (own_ne V31.lt ge32)).other R35 (own_ne V31.lt ge32)).other R36 (own_ne V31.lt ge32)).other R37 (own_ne V31.lt ge32)).other R38 (own_ne V31.lt ge32)).other R39 (own_ne V31.lt ge32)).ext E40).other R41 (own_ne c203.lt ge40)).other R42 (own_ne c203.lt ge40)).other R43 (own_ne c203.lt ge40)).other R44 (own_ne c203.lt ge40)).other R45 (own_ne c203.lt ge40)).other R46 (own_ne c203.lt ge40)).other R47 (own_ne c203.lt ge40)).other R48 (own_ne c203.lt ge40))
        refine o_stC W48 c204 (i := 0) (x' := (p2 &&& (255 : Int32))) (by decide) (by decide) (by decide) (Nat.lt_of_sub_eq_succ rfl) (own_i2c (own_b255 _)) (vs' := [(.int (p2 &&& (255 : Int32))), (.int 0), (.int 0)]) rfl gz31 (Or.inr gb31) (fun _ _ => trivial) (pc' := 431) (hb hy at_430) rfl ?_
        intro T205 h205 lo205 W205 R205 V205
        refine o_aload W205 (pc' := 433) (hb hy at_431) rfl rfl rfl ?_
        refine o_iconst W205 (v := 1) (pc' := 434) (hb hy at_433) rfl rfl ?_
        refine o_iloadN W205 (pc' := 435) (hb hy at_434) rfl rfl ?_
        refine o_sipush W205 (v := 255) (pc' := 438) (hb hy at_435) (by decide) rfl ?_
        refine o_iand W205 (v := (p1 &&& (255 : Int32))) (pc' := 439) (hb hy at_438) rfl rfl ?_
        refine o_i2c W205 (v := (p1 &&& (255 : Int32))) (pc' := 440) (hb hy at_439) (own_i2c (own_b255 _)) rfl ?_
        refine o_stC W205 V205 (i := 1) (x' := (p1 &&& (255 : Int32))) (by decide) (by decide) (by decide) (Nat.lt_of_sub_eq_succ rfl) (own_i2c (own_b255 _)) (vs' := [(.int (p2 &&& (255 : Int32))), (.int (p1 &&& (255 : Int32))), (.int 0)]) rfl gz31 (Or.inr gb31) (fun _ _ => trivial) (pc' := 441) (hb hy at_440) rfl ?_
        intro T206 h206 lo206 W206 R206 V206
        refine o_aload W206 (pc' := 443) (hb hy at_441) rfl rfl rfl ?_
        refine o_iconst W206 (v := 2) (pc' := 444) (hb hy at_443) rfl rfl ?_
        refine o_iloadN W206 (pc' := 445) (hb hy at_444) rfl rfl ?_
        refine o_sipush W206 (v := 255) (pc' := 448) (hb hy at_445) (by decide) rfl ?_
        refine o_iand W206 (v := (p3 &&& (255 : Int32))) (pc' := 449) (hb hy at_448) rfl rfl ?_
        refine o_i2c W206 (v := (p3 &&& (255 : Int32))) (pc' := 450) (hb hy at_449) (own_i2c (own_b255 _)) rfl ?_
        refine o_stC W206 V206 (i := 2) (x' := (p3 &&& (255 : Int32))) (by decide) (by decide) (by decide) (Nat.lt_of_sub_eq_succ rfl) (own_i2c (own_b255 _)) (vs' := [(.int (p2 &&& (255 : Int32))), (.int (p1 &&& (255 : Int32))), (.int (p3 &&& (255 : Int32)))]) rfl gz31 (Or.inr gb31) (fun _ _ => trivial) (pc' := 451) (hb hy at_450) rfl ?_
        intro T207 h207 lo207 W207 R207 V207
        refine o_new W207 (w5 hw) (w6 hw) (w7 hw) (fun _ _ => trivial) (pc' := 454) (hb hy at_451) rfl (cells' := 7) (slots' := 49) rfl rfl (by decide) (by decide) ?_
        intro b208 T208 h208 W208 E208 ge208 gz208 gb208 A208 D208
        have Fb208_coder : Fld Z h208 b208 "java/lang/String" "coder" "B" (.int 0) := D208 (Or.inr (w31 hw)) (ty := .byte) (by decide)
        have Fb208_value : Fld Z h208 b208 "java/lang/String" "value" "[B" .null := D208 (Or.inr (w33 hw)) (ty := (.array .byte)) (by decide)
        refine o_dup W208 (pc' := 455) (hb hy at_454) rfl rfl ?_
        refine o_aload W208 (pc' := 457) (hb hy at_455) rfl rfl rfl ?_
        have c209 := (V207.ext E208)
        have ok210 : own_ok [(p2 &&& (255 : Int32)), (p1 &&& (255 : Int32)), (p3 &&& (255 : Int32))] := ⟨by simp only [List.mem_cons, List.not_mem_nil, or_false, forall_eq_or_imp, forall_eq, false_imp_iff, implies_true]; exact ⟨(own_b255 _), (own_b255 _), (own_b255 _)⟩, Nat.le_of_ble_eq_true rfl⟩
        refine o_special W208 (y := (⟨"java/lang/String", "<init>", "([C)V"⟩ : MethodName)) rfl (w8 hw) (w9 hw) (w10 hw) (by decide) (a := b208) (argsL := [(.ref b31)]) (StrChars.Road.backV (W := 1) W208.2.2.2.1 (own_hV hw) (kI := 4) (w6 hw) (cs := [(p2 &&& (255 : Int32)), (p1 &&& (255 : Int32)), (p3 &&& (255 : Int32))]) (bs := [((p2 &&& (255 : Int32))).toInt8.toInt32, ((p1 &&& (255 : Int32))).toInt8.toInt32, ((p3 &&& (255 : Int32))).toInt8.toInt32]) (n := 3) (n0 := Z.heap.size) gz208 W208.zs A208 Fb208_value Fb208_coder c209 (SgCS.ext W208.ox) NgCS rfl rfl (by decide) (by decide) ok210.1 rfl (by decide) (by decide)) (by rw [hml]; rfl) (lenOf pd0 rfl) (S := [(.ref b208)]) rfl (by exact Nat.le_of_eq rfl) (pc' := 460) (hb hy at_457) rfl (cells' := 8) (slots' := 52) rfl rfl (by decide) (by decide) (wy := [b208]) (fun _ _ _ q => ⟨q.2.1, q.2.2.1⟩) (allS ⟨gz208, (Or.inr gb208)⟩ all0) (fun _ _ => trivial) ?_
        intro v211 T211 h211 lo211 W211 K211 q211
        obtain ⟨rfl, -, -, X211, Fc211, t211, kb211, gz211, ge211, -, Fv211, A211⟩ := q211
        have B211 : Arv Z h211 t211 kb211 .byte (3 : Int32) [(.int (StrChars.lo8 (p2 &&& (255 : Int32)))), (.int (StrChars.lo8 (p1 &&& (255 : Int32)))), (.int (StrChars.lo8 (p3 &&& (255 : Int32))))] (.int 0) := A211
        show Gl _ _ _ _ _ _ _ _ [(.ref b208)]
        refine o_astore W211 (L' := #[.val (.int p0), .val (.int p1), .val (.int p2), .val (.int p3), .val (.int 3), .val (.int 0), .val (.int (p2 &&& (255 : Int32))), .val (.ref b1), .val (.ref b9), .val (.ref b22), .val (.ref b31), .val (.ref b32), .val (.ref b40), .val (.ref b208), .val .null, .val (.int 1), .unset, .unset, .unset]) (pc' := 462) (hb hy at_460) rfl rfl rfl ?_
        refine o_goto W211 (pc' := 503) (hb hy at_462) (by decide) rfl ?_
        refine o_aload W211 (pc' := 505) (hb hy at_503) rfl rfl rfl ?_
        refine o_static W211 (y := (⟨"com/example/sessn/sessn/session/Weights", "labelled", "(Ljava/lang/String;)Lcom/example/sessn/sessn/session/Weights;"⟩ : MethodName)) (w34 hw) (w35 hw) (w2 hw) (w36 hw) (by decide) (argsL := [(.ref b208)]) (CtrN.back (Wd := 0) W211 (rm9 l Z a0 hw gCS gO1 gO2 gO4 gO6 gO8 gO9 gO10 gO11 gO12 gO13 k_gO2 k_gO9 k_gO11 k_gO13 b208 t211 kb211 [(p2 &&& (255 : Int32)), (p1 &&& (255 : Int32)), (p3 &&& (255 : Int32))] h211 W211.old SgO2__VALUES VgO2 XgO2 FitgO2 FgO1_label SgCS NgCS XgO8 FgO8_value FgO8_coder VgO9 X211 Fv211 Fc211 B211 ok210 (own_eqN (by simp)) FgO4_label XgO10 FgO10_value FgO10_coder VgO11 (own_eqN (by simp)) FgO6_label XgO12 FgO12_value FgO12_coder VgO13 (own_eqN (by simp))) (w36 hw) (w2 hw) (by decide) (by decide)) (by rw [hml]; rfl) (lenOf pd3 rfl) (S := []) rfl (by exact Nat.le_of_eq rfl) (pc' := 508) (hb hy at_505) rfl (cells' := 9) (slots' := 55) rfl rfl (by decide) (by decide) (wy := []) (fun _ _ _ q => ⟨q.1, q.2.1⟩) all0 (fun _ _ => trivial) ?_
        intro v212 T212 h212 lo212 W212 K212 q212
        obtain rfl := q212.2.2
        show Gl _ _ _ _ _ _ _ _ [.null]
        refine o_aload W212 (pc' := 510) (hb hy at_508) rfl rfl rfl ?_
        refine o_acmpN W212 (pc' := 513) (hb hy at_510) rfl rfl (XT.aa_ne_f rfl) rfl ?_
        refine o_iconst W212 (v := 1) (pc' := 514) (hb hy at_513) rfl rfl ?_
        refine o_goto W212 (pc' := 518) (hb hy at_514) (by decide) rfl ?_
        exact o_retN W212 hlk (t := .boolean) hret (by simp) (z' := (1 : Int32)) (by decide) (hb hy at_518) (by decide) (by decide) rfl
      · refine o_iand W48 (v := 2) (pc' := 403) (hb hy at_402) ek201 rfl ?_
        refine o_istore W48 (L' := #[.val (.int p0), .val (.int p1), .val (.int p2), .val (.int p3), .val (.int 3), .val (.int 0), .val (.int (p2 &&& (255 : Int32))), .val (.ref b1), .val (.ref b9), .val (.ref b22), .val (.ref b31), .val (.ref b32), .val (.ref b40), .unset, .unset, .val (.int 2), .unset, .unset, .unset]) (pc' := 405) (hb hy at_403) rfl rfl ?_
        refine o_aconstNull W48 (pc' := 406) (hb hy at_405) rfl ?_
        refine o_astore W48 (L' := #[.val (.int p0), .val (.int p1), .val (.int p2), .val (.int p3), .val (.int 3), .val (.int 0), .val (.int (p2 &&& (255 : Int32))), .val (.ref b1), .val (.ref b9), .val (.ref b22), .val (.ref b31), .val (.ref b32), .val (.ref b40), .unset, .val .null, .val (.int 2), .unset, .unset, .unset]) (pc' := 408) (hb hy at_406) rfl rfl rfl ?_
        refine o_iload W48 (pc' := 410) (hb hy at_408) rfl rfl ?_
        refine o_ifY W48 (pc' := 419) (hb hy at_410) (XT.i0_ne_t (by decide)) (by decide) rfl ?_
        refine o_iload W48 (pc' := 421) (hb hy at_419) rfl rfl ?_
        refine o_iconst W48 (v := 1) (pc' := 422) (hb hy at_421) rfl rfl ?_
        refine o_icmpY W48 (pc' := 465) (hb hy at_422) (XT.ii_ne_t (by decide)) (by decide) rfl ?_
        refine o_iload W48 (pc' := 467) (hb hy at_465) rfl rfl ?_
        refine o_iconst W48 (v := 2) (pc' := 468) (hb hy at_467) rfl rfl ?_
        refine o_icmpN W48 (pc' := 471) (hb hy at_468) (XT.ii_ne_f (by decide)) rfl ?_
        refine o_new W48 (w5 hw) (w6 hw) (w7 hw) (fun _ _ => trivial) (pc' := 474) (hb hy at_471) rfl (cells' := 7) (slots' := 49) rfl rfl (by decide) (by decide) ?_
        intro b213 T213 h213 W213 E213 ge213 gz213 gb213 A213 D213
        have Fb213_coder : Fld Z h213 b213 "java/lang/String" "coder" "B" (.int 0) := D213 (Or.inr (w31 hw)) (ty := .byte) (by decide)
        have Fb213_value : Fld Z h213 b213 "java/lang/String" "value" "[B" .null := D213 (Or.inr (w33 hw)) (ty := (.array .byte)) (by decide)
        refine o_dup W213 (pc' := 475) (hb hy at_474) rfl rfl ?_
        refine o_aload W213 (pc' := 477) (hb hy at_475) rfl rfl rfl ?_
        have c214 := ((((((((((V39.ext E40).other R41 (own_ne V39.lt ge40)).other R42 (own_ne V39.lt ge40)).other R43 (own_ne V39.lt ge40)).other R44 (own_ne V39.lt ge40)).other R45 (own_ne V39.lt ge40)).other R46 (own_ne V39.lt ge40)).other R47 (own_ne V39.lt ge40)).other R48 (own_ne V39.lt ge40)).ext E213)
        have ok215 : own_ok [(100 : Int32), (105 : Int32), (115 : Int32), (116 : Int32), (97 : Int32), (110 : Int32), (99 : Int32)] := ⟨by simp only [List.mem_cons, List.not_mem_nil, or_false, forall_eq_or_imp, forall_eq, false_imp_iff, implies_true]; exact ⟨(by unfold own_b; decide), (by unfold own_b; decide), (by unfold own_b; decide), (by unfold own_b; decide), (by unfold own_b; decide), (by unfold own_b; decide), (by unfold own_b; decide)⟩, Nat.le_of_ble_eq_true rfl⟩
        refine o_special W213 (y := (⟨"java/lang/String", "<init>", "([C)V"⟩ : MethodName)) rfl (w8 hw) (w9 hw) (w10 hw) (by decide) (a := b213) (argsL := [(.ref b32)]) (StrChars.Road.backV (W := 1) W213.2.2.2.1 (own_hV hw) (kI := 4) (w6 hw) (cs := [(100 : Int32), (105 : Int32), (115 : Int32), (116 : Int32), (97 : Int32), (110 : Int32), (99 : Int32)]) (bs := [((100 : Int32)).toInt8.toInt32, ((105 : Int32)).toInt8.toInt32, ((115 : Int32)).toInt8.toInt32, ((116 : Int32)).toInt8.toInt32, ((97 : Int32)).toInt8.toInt32, ((110 : Int32)).toInt8.toInt32, ((99 : Int32)).toInt8.toInt32]) (n := 7) (n0 := Z.heap.size) gz213 W213.zs A213 Fb213_value Fb213_coder c214 (SgCS.ext W213.ox) NgCS rfl rfl (by decide) (by decide) ok215.1 rfl (by decide) (by decide)) (by rw [hml]; rfl) (lenOf pd0 rfl) (S := [(.ref b213)]) rfl (by exact Nat.le_of_eq rfl) (pc' := 480) (hb hy at_477) rfl (cells' := 8) (slots' := 56) rfl rfl (by decide) (by decide) (wy := [b213]) (fun _ _ _ q => ⟨q.2.1, q.2.2.1⟩) (allS ⟨gz213, (Or.inr gb213)⟩ all0) (fun _ _ => trivial) ?_
        intro v216 T216 h216 lo216 W216 K216 q216
        obtain ⟨rfl, -, -, X216, Fc216, t216, kb216, gz216, ge216, -, Fv216, A216⟩ := q216
        have B216 : Arv Z h216 t216 kb216 .byte (7 : Int32) [(.int (StrChars.lo8 (100 : Int32))), (.int (StrChars.lo8 (105 : Int32))), (.int (StrChars.lo8 (115 : Int32))), (.int (StrChars.lo8 (116 : Int32))), (.int (StrChars.lo8 (97 : Int32))), (.int (StrChars.lo8 (110 : Int32))), (.int (StrChars.lo8 (99 : Int32)))] (.int 0) := A216
        show Gl _ _ _ _ _ _ _ _ [(.ref b213)]
        refine o_astore W216 (L' := #[.val (.int p0), .val (.int p1), .val (.int p2), .val (.int p3), .val (.int 3), .val (.int 0), .val (.int (p2 &&& (255 : Int32))), .val (.ref b1), .val (.ref b9), .val (.ref b22), .val (.ref b31), .val (.ref b32), .val (.ref b40), .val (.ref b213), .val .null, .val (.int 2), .unset, .unset, .unset]) (pc' := 482) (hb hy at_480) rfl rfl rfl ?_
        refine o_goto W216 (pc' := 503) (hb hy at_482) (by decide) rfl ?_
        refine o_aload W216 (pc' := 505) (hb hy at_503) rfl rfl rfl ?_
        refine o_static W216 (y := (⟨"com/example/sessn/sessn/session/Weights", "labelled", "(Ljava/lang/String;)Lcom/example/sessn/sessn/session/Weights;"⟩ : MethodName)) (w34 hw) (w35 hw) (w2 hw) (w36 hw) (by decide) (argsL := [(.ref b213)]) (CtrN.back (Wd := 0) W216 (rm9 l Z a0 hw gCS gO1 gO2 gO4 gO6 gO8 gO9 gO10 gO11 gO12 gO13 k_gO2 k_gO9 k_gO11 k_gO13 b213 t216 kb216 [(100 : Int32), (105 : Int32), (115 : Int32), (116 : Int32), (97 : Int32), (110 : Int32), (99 : Int32)] h216 W216.old SgO2__VALUES VgO2 XgO2 FitgO2 FgO1_label SgCS NgCS XgO8 FgO8_value FgO8_coder VgO9 X216 Fv216 Fc216 B216 ok215 (own_eqN (by simp)) FgO4_label XgO10 FgO10_value FgO10_coder VgO11 (own_eqN (by simp)) FgO6_label XgO12 FgO12_value FgO12_coder VgO13 (own_eqN (by simp))) (w36 hw) (w2 hw) (by decide) (by decide)) (by rw [hml]; rfl) (lenOf pd3 rfl) (S := []) rfl (by exact Nat.le_of_eq rfl) (pc' := 508) (hb hy at_505) rfl (cells' := 9) (slots' := 59) rfl rfl (by decide) (by decide) (wy := []) (fun _ _ _ q => ⟨q.1, q.2.1⟩) all0 (fun _ _ => trivial) ?_
        intro v217 T217 h217 lo217 W217 K217 q217
        obtain rfl := q217.2.2
        show Gl _ _ _ _ _ _ _ _ [.null]
        refine o_aload W217 (pc' := 510) (hb hy at_508) rfl rfl rfl ?_
        refine o_acmpN W217 (pc' := 513) (hb hy at_510) rfl rfl (XT.aa_ne_f rfl) rfl ?_
        refine o_iconst W217 (v := 1) (pc' := 514) (hb hy at_513) rfl rfl ?_
        refine o_goto W217 (pc' := 518) (hb hy at_514) (by decide) rfl ?_
        exact o_retN W217 hlk (t := .boolean) hret (by simp) (z' := (1 : Int32)) (by decide) (hb hy at_518) (by decide) (by decide) rfl
      · refine o_iand W48 (v := 3) (pc' := 403) (hb hy at_402) ek201 rfl ?_
        refine o_istore W48 (L' := #[.val (.int p0), .val (.int p1), .val (.int p2), .val (.int p3), .val (.int 3), .val (.int 0), .val (.int (p2 &&& (255 : Int32))), .val (.ref b1), .val (.ref b9), .val (.ref b22), .val (.ref b31), .val (.ref b32), .val (.ref b40), .unset, .unset, .val (.int 3), .unset, .unset, .unset]) (pc' := 405) (hb hy at_403) rfl rfl ?_
        refine o_aconstNull W48 (pc' := 406) (hb hy at_405) rfl ?_
        refine o_astore W48 (L' := #[.val (.int p0), .val (.int p1), .val (.int p2), .val (.int p3), .val (.int 3), .val (.int 0), .val (.int (p2 &&& (255 : Int32))), .val (.ref b1), .val (.ref b9), .val (.ref b22), .val (.ref b31), .val (.ref b32), .val (.ref b40), .unset, .val .null, .val (.int 3), .unset, .unset, .unset]) (pc' := 408) (hb hy at_406) rfl rfl rfl ?_
        refine o_iload W48 (pc' := 410) (hb hy at_408) rfl rfl ?_
        refine o_ifY W48 (pc' := 419) (hb hy at_410) (XT.i0_ne_t (by decide)) (by decide) rfl ?_
        refine o_iload W48 (pc' := 421) (hb hy at_419) rfl rfl ?_
        refine o_iconst W48 (v := 1) (pc' := 422) (hb hy at_421) rfl rfl ?_
        refine o_icmpY W48 (pc' := 465) (hb hy at_422) (XT.ii_ne_t (by decide)) (by decide) rfl ?_
        refine o_iload W48 (pc' := 467) (hb hy at_465) rfl rfl ?_
        refine o_iconst W48 (v := 2) (pc' := 468) (hb hy at_467) rfl rfl ?_
        refine o_icmpY W48 (pc' := 485) (hb hy at_468) (XT.ii_ne_t (by decide)) (by decide) rfl ?_
        refine o_aload W48 (pc' := 487) (hb hy at_485) rfl rfl rfl ?_
        refine o_bipush W48 (v := 7) (pc' := 489) (hb hy at_487) (by decide) rfl ?_
        refine o_iload W48 (pc' := 491) (hb hy at_489) rfl rfl ?_
        refine o_stC W48 V48 (i := 7) (x' := (p2 &&& (255 : Int32))) (by decide) (by decide) (by decide) (Nat.lt_of_sub_eq_succ rfl) (own_i2c (own_b255 _)) (vs' := [(.int 117), (.int 110), (.int 105), (.int 102), (.int 111), (.int 114), (.int 109), (.int (p2 &&& (255 : Int32)))]) rfl gz40 (Or.inr gb40) (fun _ _ => trivial) (pc' := 492) (hb hy at_491) rfl ?_
        intro T218 h218 lo218 W218 R218 V218
        refine o_new W218 (w5 hw) (w6 hw) (w7 hw) (fun _ _ => trivial) (pc' := 495) (hb hy at_492) rfl (cells' := 7) (slots' := 49) rfl rfl (by decide) (by decide) ?_
        intro b219 T219 h219 W219 E219 ge219 gz219 gb219 A219 D219
        have Fb219_coder : Fld Z h219 b219 "java/lang/String" "coder" "B" (.int 0) := D219 (Or.inr (w31 hw)) (ty := .byte) (by decide)
        have Fb219_value : Fld Z h219 b219 "java/lang/String" "value" "[B" .null := D219 (Or.inr (w33 hw)) (ty := (.array .byte)) (by decide)
        refine o_dup W219 (pc' := 496) (hb hy at_495) rfl rfl ?_
        refine o_aload W219 (pc' := 498) (hb hy at_496) rfl rfl rfl ?_
        have c220 := (V218.ext E219)
        have ok221 : own_ok [(117 : Int32), (110 : Int32), (105 : Int32), (102 : Int32), (111 : Int32), (114 : Int32), (109 : Int32), (p2 &&& (255 : Int32))] := ⟨by simp only [List.mem_cons, List.not_mem_nil, or_false, forall_eq_or_imp, forall_eq, false_imp_iff, implies_true]; exact ⟨(by unfold own_b; decide), (by unfold own_b; decide), (by unfold own_b; decide), (by unfold own_b; decide), (by unfold own_b; decide), (by unfold own_b; decide), (by unfold own_b; decide), (own_b255 _)⟩, Nat.le_of_ble_eq_true rfl⟩
        refine o_special W219 (y := (⟨"java/lang/String", "<init>", "([C)V"⟩ : MethodName)) rfl (w8 hw) (w9 hw) (w10 hw) (by decide) (a := b219) (argsL := [(.ref b40)]) (StrChars.Road.backV (W := 1) W219.2.2.2.1 (own_hV hw) (kI := 4) (w6 hw) (cs := [(117 : Int32), (110 : Int32), (105 : Int32), (102 : Int32), (111 : Int32), (114 : Int32), (109 : Int32), (p2 &&& (255 : Int32))]) (bs := [((117 : Int32)).toInt8.toInt32, ((110 : Int32)).toInt8.toInt32, ((105 : Int32)).toInt8.toInt32, ((102 : Int32)).toInt8.toInt32, ((111 : Int32)).toInt8.toInt32, ((114 : Int32)).toInt8.toInt32, ((109 : Int32)).toInt8.toInt32, ((p2 &&& (255 : Int32))).toInt8.toInt32]) (n := 8) (n0 := Z.heap.size) gz219 W219.zs A219 Fb219_value Fb219_coder c220 (SgCS.ext W219.ox) NgCS rfl rfl (by decide) (by decide) ok221.1 rfl (by decide) (by decide)) (by rw [hml]; rfl) (lenOf pd0 rfl) (S := [(.ref b219)]) rfl (by exact Nat.le_of_eq rfl) (pc' := 501) (hb hy at_498) rfl (cells' := 8) (slots' := 57) rfl rfl (by decide) (by decide) (wy := [b219]) (fun _ _ _ q => ⟨q.2.1, q.2.2.1⟩) (allS ⟨gz219, (Or.inr gb219)⟩ all0) (fun _ _ => trivial) ?_
        intro v222 T222 h222 lo222 W222 K222 q222
        obtain ⟨rfl, -, -, X222, Fc222, t222, kb222, gz222, ge222, -, Fv222, A222⟩ := q222
        have B222 : Arv Z h222 t222 kb222 .byte (8 : Int32) [(.int (StrChars.lo8 (117 : Int32))), (.int (StrChars.lo8 (110 : Int32))), (.int (StrChars.lo8 (105 : Int32))), (.int (StrChars.lo8 (102 : Int32))), (.int (StrChars.lo8 (111 : Int32))), (.int (StrChars.lo8 (114 : Int32))), (.int (StrChars.lo8 (109 : Int32))), (.int (StrChars.lo8 (p2 &&& (255 : Int32))))] (.int 0) := A222
        show Gl _ _ _ _ _ _ _ _ [(.ref b219)]
        refine o_astore W222 (L' := #[.val (.int p0), .val (.int p1), .val (.int p2), .val (.int p3), .val (.int 3), .val (.int 0), .val (.int (p2 &&& (255 : Int32))), .val (.ref b1), .val (.ref b9), .val (.ref b22), .val (.ref b31), .val (.ref b32), .val (.ref b40), .val (.ref b219), .val .null, .val (.int 3), .unset, .unset, .unset]) (pc' := 503) (hb hy at_501) rfl rfl rfl ?_
        refine o_aload W222 (pc' := 505) (hb hy at_503) rfl rfl rfl ?_
        refine o_static W222 (y := (⟨"com/example/sessn/sessn/session/Weights", "labelled", "(Ljava/lang/String;)Lcom/example/sessn/sessn/session/Weights;"⟩ : MethodName)) (w34 hw) (w35 hw) (w2 hw) (w36 hw) (by decide) (argsL := [(.ref b219)]) (CtrN.back (Wd := 0) W222 (rm9 l Z a0 hw gCS gO1 gO2 gO4 gO6 gO8 gO9 gO10 gO11 gO12 gO13 k_gO2 k_gO9 k_gO11 k_gO13 b219 t222 kb222 [(117 : Int32), (110 : Int32), (105 : Int32), (102 : Int32), (111 : Int32), (114 : Int32), (109 : Int32), (p2 &&& (255 : Int32))] h222 W222.old SgO2__VALUES VgO2 XgO2 FitgO2 FgO1_label SgCS NgCS XgO8 FgO8_value FgO8_coder VgO9 X222 Fv222 Fc222 B222 ok221 (own_eqN (by simp)) FgO4_label XgO10 FgO10_value FgO10_coder VgO11 (own_eqN (by simp)) FgO6_label XgO12 FgO12_value FgO12_coder VgO13 (own_eqN (by simp))) (w36 hw) (w2 hw) (by decide) (by decide)) (by rw [hml]; rfl) (lenOf pd3 rfl) (S := []) rfl (by exact Nat.le_of_eq rfl) (pc' := 508) (hb hy at_505) rfl (cells' := 9) (slots' := 60) rfl rfl (by decide) (by decide) (wy := []) (fun _ _ _ q => ⟨q.1, q.2.1⟩) all0 (fun _ _ => trivial) ?_
        intro v223 T223 h223 lo223 W223 K223 q223
        obtain rfl := q223.2.2
        show Gl _ _ _ _ _ _ _ _ [.null]
        refine o_aload W223 (pc' := 510) (hb hy at_508) rfl rfl rfl ?_
        refine o_acmpN W223 (pc' := 513) (hb hy at_510) rfl rfl (XT.aa_ne_f rfl) rfl ?_
        refine o_iconst W223 (v := 1) (pc' := 514) (hb hy at_513) rfl rfl ?_
        refine o_goto W223 (pc' := 518) (hb hy at_514) (by decide) rfl ?_
        exact o_retN W223 hlk (t := .boolean) hret (by simp) (z' := (1 : Int32)) (by decide) (hb hy at_518) (by decide) (by decide) rfl
  · refine o_ifN W0 (pc' := 11) (hb hy at_8) (XT.i0_eq_f hb0) rfl ?_
    refine o_iconst W0 (v := 1) (pc' := 12) (hb hy at_11) rfl rfl ?_
    refine o_goto W0 (pc' := 16) (hb hy at_12) (by decide) rfl ?_
    refine o_istore W0 (L' := #[.val (.int p0), .val (.int p1), .val (.int p2), .val (.int p3), .val (.int (p0 &&& (3 : Int32))), .val (.int 1), .unset, .unset, .unset, .unset, .unset, .unset, .unset, .unset, .unset, .unset, .unset, .unset, .unset]) (pc' := 18) (hb hy at_16) rfl rfl ?_
    refine o_iloadN W0 (pc' := 19) (hb hy at_18) rfl rfl ?_
    refine o_sipush W0 (v := 255) (pc' := 22) (hb hy at_19) (by decide) rfl ?_
    refine o_iand W0 (v := (p2 &&& (255 : Int32))) (pc' := 23) (hb hy at_22) rfl rfl ?_
    refine o_i2c W0 (v := (p2 &&& (255 : Int32))) (pc' := 24) (hb hy at_23) (own_i2c (own_b255 _)) rfl ?_
    refine o_istore W0 (L' := #[.val (.int p0), .val (.int p1), .val (.int p2), .val (.int p3), .val (.int (p0 &&& (3 : Int32))), .val (.int 1), .val (.int (p2 &&& (255 : Int32))), .unset, .unset, .unset, .unset, .unset, .unset, .unset, .unset, .unset, .unset, .unset, .unset]) (pc' := 26) (hb hy at_24) rfl rfl ?_
    refine o_bipush W0 (v := 7) (pc' := 28) (hb hy at_26) (by decide) rfl ?_
    refine o_newP W0 (aty := .char) (w0 hw) (fun _ _ => trivial) (by decide) (cap := 7) (by decide) (by decide) (pc' := 30) (hb hy at_28) rfl (cells' := 1) (slots' := 7) rfl rfl (by decide) (by decide) (vs := [(.int 0), (.int 0), (.int 0), (.int 0), (.int 0), (.int 0), (.int 0)]) (dv := (.int 0)) rfl rfl ?_
    intro b224 T224 h224 k224 W224 E224 ge224 gz224 gb224 V224
    refine o_dup W224 (pc' := 31) (hb hy at_30) rfl rfl ?_
    refine o_iconst W224 (v := 0) (pc' := 32) (hb hy at_31) rfl rfl ?_
    refine o_bipush W224 (v := 117) (pc' := 34) (hb hy at_32) (by decide) rfl ?_
    refine o_stC W224 V224 (i := 0) (x' := (117 : Int32)) (by decide) (by decide) (by decide) (Nat.lt_of_sub_eq_succ rfl) (by decide) (vs' := [(.int 117), (.int 0), (.int 0), (.int 0), (.int 0), (.int 0), (.int 0)]) rfl gz224 (Or.inr gb224) (fun _ _ => trivial) (pc' := 35) (hb hy at_34) rfl ?_
    intro T225 h225 lo225 W225 R225 V225
    refine o_dup W225 (pc' := 36) (hb hy at_35) rfl rfl ?_
    refine o_iconst W225 (v := 1) (pc' := 37) (hb hy at_36) rfl rfl ?_
    refine o_bipush W225 (v := 110) (pc' := 39) (hb hy at_37) (by decide) rfl ?_
    refine o_stC W225 V225 (i := 1) (x' := (110 : Int32)) (by decide) (by decide) (by decide) (Nat.lt_of_sub_eq_succ rfl) (by decide) (vs' := [(.int 117), (.int 110), (.int 0), (.int 0), (.int 0), (.int 0), (.int 0)]) rfl gz224 (Or.inr gb224) (fun _ _ => trivial) (pc' := 40) (hb hy at_39) rfl ?_
    intro T226 h226 lo226 W226 R226 V226
    refine o_dup W226 (pc' := 41) (hb hy at_40) rfl rfl ?_
    refine o_iconst W226 (v := 2) (pc' := 42) (hb hy at_41) rfl rfl ?_
    refine o_bipush W226 (v := 105) (pc' := 44) (hb hy at_42) (by decide) rfl ?_
    refine o_stC W226 V226 (i := 2) (x' := (105 : Int32)) (by decide) (by decide) (by decide) (Nat.lt_of_sub_eq_succ rfl) (by decide) (vs' := [(.int 117), (.int 110), (.int 105), (.int 0), (.int 0), (.int 0), (.int 0)]) rfl gz224 (Or.inr gb224) (fun _ _ => trivial) (pc' := 45) (hb hy at_44) rfl ?_
    intro T227 h227 lo227 W227 R227 V227
    refine o_dup W227 (pc' := 46) (hb hy at_45) rfl rfl ?_
    refine o_iconst W227 (v := 3) (pc' := 47) (hb hy at_46) rfl rfl ?_
    refine o_bipush W227 (v := 102) (pc' := 49) (hb hy at_47) (by decide) rfl ?_
    refine o_stC W227 V227 (i := 3) (x' := (102 : Int32)) (by decide) (by decide) (by decide) (Nat.lt_of_sub_eq_succ rfl) (by decide) (vs' := [(.int 117), (.int 110), (.int 105), (.int 102), (.int 0), (.int 0), (.int 0)]) rfl gz224 (Or.inr gb224) (fun _ _ => trivial) (pc' := 50) (hb hy at_49) rfl ?_
    intro T228 h228 lo228 W228 R228 V228
    refine o_dup W228 (pc' := 51) (hb hy at_50) rfl rfl ?_
    refine o_iconst W228 (v := 4) (pc' := 52) (hb hy at_51) rfl rfl ?_
    refine o_bipush W228 (v := 111) (pc' := 54) (hb hy at_52) (by decide) rfl ?_
    refine o_stC W228 V228 (i := 4) (x' := (111 : Int32)) (by decide) (by decide) (by decide) (Nat.lt_of_sub_eq_succ rfl) (by decide) (vs' := [(.int 117), (.int 110), (.int 105), (.int 102), (.int 111), (.int 0), (.int 0)]) rfl gz224 (Or.inr gb224) (fun _ _ => trivial) (pc' := 55) (hb hy at_54) rfl ?_
    intro T229 h229 lo229 W229 R229 V229
    refine o_dup W229 (pc' := 56) (hb hy at_55) rfl rfl ?_
    refine o_iconst W229 (v := 5) (pc' := 57) (hb hy at_56) rfl rfl ?_
    refine o_bipush W229 (v := 114) (pc' := 59) (hb hy at_57) (by decide) rfl ?_
    refine o_stC W229 V229 (i := 5) (x' := (114 : Int32)) (by decide) (by decide) (by decide) (Nat.lt_of_sub_eq_succ rfl) (by decide) (vs' := [(.int 117), (.int 110), (.int 105), (.int 102), (.int 111), (.int 114), (.int 0)]) rfl gz224 (Or.inr gb224) (fun _ _ => trivial) (pc' := 60) (hb hy at_59) rfl ?_
    intro T230 h230 lo230 W230 R230 V230
    refine o_dup W230 (pc' := 61) (hb hy at_60) rfl rfl ?_
    refine o_bipush W230 (v := 6) (pc' := 63) (hb hy at_61) (by decide) rfl ?_
    refine o_bipush W230 (v := 109) (pc' := 65) (hb hy at_63) (by decide) rfl ?_
    refine o_stC W230 V230 (i := 6) (x' := (109 : Int32)) (by decide) (by decide) (by decide) (Nat.lt_of_sub_eq_succ rfl) (by decide) (vs' := [(.int 117), (.int 110), (.int 105), (.int 102), (.int 111), (.int 114), (.int 109)]) rfl gz224 (Or.inr gb224) (fun _ _ => trivial) (pc' := 66) (hb hy at_65) rfl ?_
    intro T231 h231 lo231 W231 R231 V231
    refine o_astore W231 (L' := #[.val (.int p0), .val (.int p1), .val (.int p2), .val (.int p3), .val (.int (p0 &&& (3 : Int32))), .val (.int 1), .val (.int (p2 &&& (255 : Int32))), .val (.ref b224), .unset, .unset, .unset, .unset, .unset, .unset, .unset, .unset, .unset, .unset, .unset]) (pc' := 68) (hb hy at_66) rfl rfl rfl ?_
    refine o_bipush W231 (v := 12) (pc' := 70) (hb hy at_68) (by decide) rfl ?_
    refine o_newP W231 (aty := .char) (w0 hw) (fun _ _ => trivial) (by decide) (cap := 12) (by decide) (by decide) (pc' := 72) (hb hy at_70) rfl (cells' := 2) (slots' := 19) rfl rfl (by decide) (by decide) (vs := [(.int 0), (.int 0), (.int 0), (.int 0), (.int 0), (.int 0), (.int 0), (.int 0), (.int 0), (.int 0), (.int 0), (.int 0)]) (dv := (.int 0)) rfl rfl ?_
    intro b232 T232 h232 k232 W232 E232 ge232 gz232 gb232 V232
    refine o_dup W232 (pc' := 73) (hb hy at_72) rfl rfl ?_
    refine o_iconst W232 (v := 0) (pc' := 74) (hb hy at_73) rfl rfl ?_
    refine o_bipush W232 (v := 112) (pc' := 76) (hb hy at_74) (by decide) rfl ?_
    refine o_stC W232 V232 (i := 0) (x' := (112 : Int32)) (by decide) (by decide) (by decide) (Nat.lt_of_sub_eq_succ rfl) (by decide) (vs' := [(.int 112), (.int 0), (.int 0), (.int 0), (.int 0), (.int 0), (.int 0), (.int 0), (.int 0), (.int 0), (.int 0), (.int 0)]) rfl gz232 (Or.inr gb232) (fun _ _ => trivial) (pc' := 77) (hb hy at_76) rfl ?_
    intro T233 h233 lo233 W233 R233 V233
    refine o_dup W233 (pc' := 78) (hb hy at_77) rfl rfl ?_
    refine o_iconst W233 (v := 1) (pc' := 79) (hb hy at_78) rfl rfl ?_
    refine o_bipush W233 (v := 114) (pc' := 81) (hb hy at_79) (by decide) rfl ?_
    refine o_stC W233 V233 (i := 1) (x' := (114 : Int32)) (by decide) (by decide) (by decide) (Nat.lt_of_sub_eq_succ rfl) (by decide) (vs' := [(.int 112), (.int 114), (.int 0), (.int 0), (.int 0), (.int 0), (.int 0), (.int 0), (.int 0), (.int 0), (.int 0), (.int 0)]) rfl gz232 (Or.inr gb232) (fun _ _ => trivial) (pc' := 82) (hb hy at_81) rfl ?_
    intro T234 h234 lo234 W234 R234 V234
    refine o_dup W234 (pc' := 83) (hb hy at_82) rfl rfl ?_
    refine o_iconst W234 (v := 2) (pc' := 84) (hb hy at_83) rfl rfl ?_
    refine o_bipush W234 (v := 101) (pc' := 86) (hb hy at_84) (by decide) rfl ?_
    refine o_stC W234 V234 (i := 2) (x' := (101 : Int32)) (by decide) (by decide) (by decide) (Nat.lt_of_sub_eq_succ rfl) (by decide) (vs' := [(.int 112), (.int 114), (.int 101), (.int 0), (.int 0), (.int 0), (.int 0), (.int 0), (.int 0), (.int 0), (.int 0), (.int 0)]) rfl gz232 (Or.inr gb232) (fun _ _ => trivial) (pc' := 87) (hb hy at_86) rfl ?_
    intro T235 h235 lo235 W235 R235 V235
    refine o_dup W235 (pc' := 88) (hb hy at_87) rfl rfl ?_
    refine o_iconst W235 (v := 3) (pc' := 89) (hb hy at_88) rfl rfl ?_
    refine o_bipush W235 (v := 118) (pc' := 91) (hb hy at_89) (by decide) rfl ?_
    refine o_stC W235 V235 (i := 3) (x' := (118 : Int32)) (by decide) (by decide) (by decide) (Nat.lt_of_sub_eq_succ rfl) (by decide) (vs' := [(.int 112), (.int 114), (.int 101), (.int 118), (.int 0), (.int 0), (.int 0), (.int 0), (.int 0), (.int 0), (.int 0), (.int 0)]) rfl gz232 (Or.inr gb232) (fun _ _ => trivial) (pc' := 92) (hb hy at_91) rfl ?_
    intro T236 h236 lo236 W236 R236 V236
    refine o_dup W236 (pc' := 93) (hb hy at_92) rfl rfl ?_
    refine o_iconst W236 (v := 4) (pc' := 94) (hb hy at_93) rfl rfl ?_
    refine o_bipush W236 (v := 45) (pc' := 96) (hb hy at_94) (by decide) rfl ?_
    refine o_stC W236 V236 (i := 4) (x' := (45 : Int32)) (by decide) (by decide) (by decide) (Nat.lt_of_sub_eq_succ rfl) (by decide) (vs' := [(.int 112), (.int 114), (.int 101), (.int 118), (.int 45), (.int 0), (.int 0), (.int 0), (.int 0), (.int 0), (.int 0), (.int 0)]) rfl gz232 (Or.inr gb232) (fun _ _ => trivial) (pc' := 97) (hb hy at_96) rfl ?_
    intro T237 h237 lo237 W237 R237 V237
    refine o_dup W237 (pc' := 98) (hb hy at_97) rfl rfl ?_
    refine o_iconst W237 (v := 5) (pc' := 99) (hb hy at_98) rfl rfl ?_
    refine o_bipush W237 (v := 99) (pc' := 101) (hb hy at_99) (by decide) rfl ?_
    refine o_stC W237 V237 (i := 5) (x' := (99 : Int32)) (by decide) (by decide) (by decide) (Nat.lt_of_sub_eq_succ rfl) (by decide) (vs' := [(.int 112), (.int 114), (.int 101), (.int 118), (.int 45), (.int 99), (.int 0), (.int 0), (.int 0), (.int 0), (.int 0), (.int 0)]) rfl gz232 (Or.inr gb232) (fun _ _ => trivial) (pc' := 102) (hb hy at_101) rfl ?_
    intro T238 h238 lo238 W238 R238 V238
    refine o_dup W238 (pc' := 103) (hb hy at_102) rfl rfl ?_
    refine o_bipush W238 (v := 6) (pc' := 105) (hb hy at_103) (by decide) rfl ?_
    refine o_bipush W238 (v := 117) (pc' := 107) (hb hy at_105) (by decide) rfl ?_
    refine o_stC W238 V238 (i := 6) (x' := (117 : Int32)) (by decide) (by decide) (by decide) (Nat.lt_of_sub_eq_succ rfl) (by decide) (vs' := [(.int 112), (.int 114), (.int 101), (.int 118), (.int 45), (.int 99), (.int 117), (.int 0), (.int 0), (.int 0), (.int 0), (.int 0)]) rfl gz232 (Or.inr gb232) (fun _ _ => trivial) (pc' := 108) (hb hy at_107) rfl ?_
    intro T239 h239 lo239 W239 R239 V239
    refine o_dup W239 (pc' := 109) (hb hy at_108) rfl rfl ?_
    refine o_bipush W239 (v := 7) (pc' := 111) (hb hy at_109) (by decide) rfl ?_
    refine o_bipush W239 (v := 114) (pc' := 113) (hb hy at_111) (by decide) rfl ?_
    refine o_stC W239 V239 (i := 7) (x' := (114 : Int32)) (by decide) (by decide) (by decide) (Nat.lt_of_sub_eq_succ rfl) (by decide) (vs' := [(.int 112), (.int 114), (.int 101), (.int 118), (.int 45), (.int 99), (.int 117), (.int 114), (.int 0), (.int 0), (.int 0), (.int 0)]) rfl gz232 (Or.inr gb232) (fun _ _ => trivial) (pc' := 114) (hb hy at_113) rfl ?_
    intro T240 h240 lo240 W240 R240 V240
    refine o_dup W240 (pc' := 115) (hb hy at_114) rfl rfl ?_
    refine o_bipush W240 (v := 8) (pc' := 117) (hb hy at_115) (by decide) rfl ?_
    refine o_bipush W240 (v := 114) (pc' := 119) (hb hy at_117) (by decide) rfl ?_
    refine o_stC W240 V240 (i := 8) (x' := (114 : Int32)) (by decide) (by decide) (by decide) (Nat.lt_of_sub_eq_succ rfl) (by decide) (vs' := [(.int 112), (.int 114), (.int 101), (.int 118), (.int 45), (.int 99), (.int 117), (.int 114), (.int 114), (.int 0), (.int 0), (.int 0)]) rfl gz232 (Or.inr gb232) (fun _ _ => trivial) (pc' := 120) (hb hy at_119) rfl ?_
    intro T241 h241 lo241 W241 R241 V241
    refine o_dup W241 (pc' := 121) (hb hy at_120) rfl rfl ?_
    refine o_bipush W241 (v := 9) (pc' := 123) (hb hy at_121) (by decide) rfl ?_
    refine o_bipush W241 (v := 101) (pc' := 125) (hb hy at_123) (by decide) rfl ?_
    refine o_stC W241 V241 (i := 9) (x' := (101 : Int32)) (by decide) (by decide) (by decide) (Nat.lt_of_sub_eq_succ rfl) (by decide) (vs' := [(.int 112), (.int 114), (.int 101), (.int 118), (.int 45), (.int 99), (.int 117), (.int 114), (.int 114), (.int 101), (.int 0), (.int 0)]) rfl gz232 (Or.inr gb232) (fun _ _ => trivial) (pc' := 126) (hb hy at_125) rfl ?_
    intro T242 h242 lo242 W242 R242 V242
    refine o_dup W242 (pc' := 127) (hb hy at_126) rfl rfl ?_
    refine o_bipush W242 (v := 10) (pc' := 129) (hb hy at_127) (by decide) rfl ?_
    refine o_bipush W242 (v := 110) (pc' := 131) (hb hy at_129) (by decide) rfl ?_
    refine o_stC W242 V242 (i := 10) (x' := (110 : Int32)) (by decide) (by decide) (by decide) (Nat.lt_of_sub_eq_succ rfl) (by decide) (vs' := [(.int 112), (.int 114), (.int 101), (.int 118), (.int 45), (.int 99), (.int 117), (.int 114), (.int 114), (.int 101), (.int 110), (.int 0)]) rfl gz232 (Or.inr gb232) (fun _ _ => trivial) (pc' := 132) (hb hy at_131) rfl ?_
    intro T243 h243 lo243 W243 R243 V243
    refine o_dup W243 (pc' := 133) (hb hy at_132) rfl rfl ?_
    refine o_bipush W243 (v := 11) (pc' := 135) (hb hy at_133) (by decide) rfl ?_
    refine o_bipush W243 (v := 116) (pc' := 137) (hb hy at_135) (by decide) rfl ?_
    refine o_stC W243 V243 (i := 11) (x' := (116 : Int32)) (by decide) (by decide) (by decide) (Nat.lt_of_sub_eq_succ rfl) (by decide) (vs' := [(.int 112), (.int 114), (.int 101), (.int 118), (.int 45), (.int 99), (.int 117), (.int 114), (.int 114), (.int 101), (.int 110), (.int 116)]) rfl gz232 (Or.inr gb232) (fun _ _ => trivial) (pc' := 138) (hb hy at_137) rfl ?_
    intro T244 h244 lo244 W244 R244 V244
    refine o_astore W244 (L' := #[.val (.int p0), .val (.int p1), .val (.int p2), .val (.int p3), .val (.int (p0 &&& (3 : Int32))), .val (.int 1), .val (.int (p2 &&& (255 : Int32))), .val (.ref b224), .val (.ref b232), .unset, .unset, .unset, .unset, .unset, .unset, .unset, .unset, .unset, .unset]) (pc' := 140) (hb hy at_138) rfl rfl rfl ?_
    refine o_bipush W244 (v := 8) (pc' := 142) (hb hy at_140) (by decide) rfl ?_
    refine o_newP W244 (aty := .char) (w0 hw) (fun _ _ => trivial) (by decide) (cap := 8) (by decide) (by decide) (pc' := 144) (hb hy at_142) rfl (cells' := 3) (slots' := 27) rfl rfl (by decide) (by decide) (vs := [(.int 0), (.int 0), (.int 0), (.int 0), (.int 0), (.int 0), (.int 0), (.int 0)]) (dv := (.int 0)) rfl rfl ?_
    intro b245 T245 h245 k245 W245 E245 ge245 gz245 gb245 V245
    refine o_dup W245 (pc' := 145) (hb hy at_144) rfl rfl ?_
    refine o_iconst W245 (v := 0) (pc' := 146) (hb hy at_145) rfl rfl ?_
    refine o_bipush W245 (v := 100) (pc' := 148) (hb hy at_146) (by decide) rfl ?_
    refine o_stC W245 V245 (i := 0) (x' := (100 : Int32)) (by decide) (by decide) (by decide) (Nat.lt_of_sub_eq_succ rfl) (by decide) (vs' := [(.int 100), (.int 0), (.int 0), (.int 0), (.int 0), (.int 0), (.int 0), (.int 0)]) rfl gz245 (Or.inr gb245) (fun _ _ => trivial) (pc' := 149) (hb hy at_148) rfl ?_
    intro T246 h246 lo246 W246 R246 V246
    refine o_dup W246 (pc' := 150) (hb hy at_149) rfl rfl ?_
    refine o_iconst W246 (v := 1) (pc' := 151) (hb hy at_150) rfl rfl ?_
    refine o_bipush W246 (v := 105) (pc' := 153) (hb hy at_151) (by decide) rfl ?_
    refine o_stC W246 V246 (i := 1) (x' := (105 : Int32)) (by decide) (by decide) (by decide) (Nat.lt_of_sub_eq_succ rfl) (by decide) (vs' := [(.int 100), (.int 105), (.int 0), (.int 0), (.int 0), (.int 0), (.int 0), (.int 0)]) rfl gz245 (Or.inr gb245) (fun _ _ => trivial) (pc' := 154) (hb hy at_153) rfl ?_
    intro T247 h247 lo247 W247 R247 V247
    refine o_dup W247 (pc' := 155) (hb hy at_154) rfl rfl ?_
    refine o_iconst W247 (v := 2) (pc' := 156) (hb hy at_155) rfl rfl ?_
    refine o_bipush W247 (v := 115) (pc' := 158) (hb hy at_156) (by decide) rfl ?_
    refine o_stC W247 V247 (i := 2) (x' := (115 : Int32)) (by decide) (by decide) (by decide) (Nat.lt_of_sub_eq_succ rfl) (by decide) (vs' := [(.int 100), (.int 105), (.int 115), (.int 0), (.int 0), (.int 0), (.int 0), (.int 0)]) rfl gz245 (Or.inr gb245) (fun _ _ => trivial) (pc' := 159) (hb hy at_158) rfl ?_
    intro T248 h248 lo248 W248 R248 V248
    refine o_dup W248 (pc' := 160) (hb hy at_159) rfl rfl ?_
    refine o_iconst W248 (v := 3) (pc' := 161) (hb hy at_160) rfl rfl ?_
    refine o_bipush W248 (v := 116) (pc' := 163) (hb hy at_161) (by decide) rfl ?_
    refine o_stC W248 V248 (i := 3) (x' := (116 : Int32)) (by decide) (by decide) (by decide) (Nat.lt_of_sub_eq_succ rfl) (by decide) (vs' := [(.int 100), (.int 105), (.int 115), (.int 116), (.int 0), (.int 0), (.int 0), (.int 0)]) rfl gz245 (Or.inr gb245) (fun _ _ => trivial) (pc' := 164) (hb hy at_163) rfl ?_
    intro T249 h249 lo249 W249 R249 V249
    refine o_dup W249 (pc' := 165) (hb hy at_164) rfl rfl ?_
    refine o_iconst W249 (v := 4) (pc' := 166) (hb hy at_165) rfl rfl ?_
    refine o_bipush W249 (v := 97) (pc' := 168) (hb hy at_166) (by decide) rfl ?_
    refine o_stC W249 V249 (i := 4) (x' := (97 : Int32)) (by decide) (by decide) (by decide) (Nat.lt_of_sub_eq_succ rfl) (by decide) (vs' := [(.int 100), (.int 105), (.int 115), (.int 116), (.int 97), (.int 0), (.int 0), (.int 0)]) rfl gz245 (Or.inr gb245) (fun _ _ => trivial) (pc' := 169) (hb hy at_168) rfl ?_
    intro T250 h250 lo250 W250 R250 V250
    refine o_dup W250 (pc' := 170) (hb hy at_169) rfl rfl ?_
    refine o_iconst W250 (v := 5) (pc' := 171) (hb hy at_170) rfl rfl ?_
    refine o_bipush W250 (v := 110) (pc' := 173) (hb hy at_171) (by decide) rfl ?_
    refine o_stC W250 V250 (i := 5) (x' := (110 : Int32)) (by decide) (by decide) (by decide) (Nat.lt_of_sub_eq_succ rfl) (by decide) (vs' := [(.int 100), (.int 105), (.int 115), (.int 116), (.int 97), (.int 110), (.int 0), (.int 0)]) rfl gz245 (Or.inr gb245) (fun _ _ => trivial) (pc' := 174) (hb hy at_173) rfl ?_
    intro T251 h251 lo251 W251 R251 V251
    refine o_dup W251 (pc' := 175) (hb hy at_174) rfl rfl ?_
    refine o_bipush W251 (v := 6) (pc' := 177) (hb hy at_175) (by decide) rfl ?_
    refine o_bipush W251 (v := 99) (pc' := 179) (hb hy at_177) (by decide) rfl ?_
    refine o_stC W251 V251 (i := 6) (x' := (99 : Int32)) (by decide) (by decide) (by decide) (Nat.lt_of_sub_eq_succ rfl) (by decide) (vs' := [(.int 100), (.int 105), (.int 115), (.int 116), (.int 97), (.int 110), (.int 99), (.int 0)]) rfl gz245 (Or.inr gb245) (fun _ _ => trivial) (pc' := 180) (hb hy at_179) rfl ?_
    intro T252 h252 lo252 W252 R252 V252
    refine o_dup W252 (pc' := 181) (hb hy at_180) rfl rfl ?_
    refine o_bipush W252 (v := 7) (pc' := 183) (hb hy at_181) (by decide) rfl ?_
    refine o_bipush W252 (v := 101) (pc' := 185) (hb hy at_183) (by decide) rfl ?_
    refine o_stC W252 V252 (i := 7) (x' := (101 : Int32)) (by decide) (by decide) (by decide) (Nat.lt_of_sub_eq_succ rfl) (by decide) (vs' := [(.int 100), (.int 105), (.int 115), (.int 116), (.int 97), (.int 110), (.int 99), (.int 101)]) rfl gz245 (Or.inr gb245) (fun _ _ => trivial) (pc' := 186) (hb hy at_185) rfl ?_
    intro T253 h253 lo253 W253 R253 V253
    refine o_astore W253 (L' := #[.val (.int p0), .val (.int p1), .val (.int p2), .val (.int p3), .val (.int (p0 &&& (3 : Int32))), .val (.int 1), .val (.int (p2 &&& (255 : Int32))), .val (.ref b224), .val (.ref b232), .val (.ref b245), .unset, .unset, .unset, .unset, .unset, .unset, .unset, .unset, .unset]) (pc' := 188) (hb hy at_186) rfl rfl rfl ?_
    refine o_iconst W253 (v := 3) (pc' := 189) (hb hy at_188) rfl rfl ?_
    refine o_newP W253 (aty := .char) (w0 hw) (fun _ _ => trivial) (by decide) (cap := 3) (by decide) (by decide) (pc' := 191) (hb hy at_189) rfl (cells' := 4) (slots' := 30) rfl rfl (by decide) (by decide) (vs := [(.int 0), (.int 0), (.int 0)]) (dv := (.int 0)) rfl rfl ?_
    intro b254 T254 h254 k254 W254 E254 ge254 gz254 gb254 V254
    refine o_astore W254 (L' := #[.val (.int p0), .val (.int p1), .val (.int p2), .val (.int p3), .val (.int (p0 &&& (3 : Int32))), .val (.int 1), .val (.int (p2 &&& (255 : Int32))), .val (.ref b224), .val (.ref b232), .val (.ref b245), .val (.ref b254), .unset, .unset, .unset, .unset, .unset, .unset, .unset, .unset]) (pc' := 193) (hb hy at_191) rfl rfl rfl ?_
    refine o_bipush W254 (v := 7) (pc' := 195) (hb hy at_193) (by decide) rfl ?_
    refine o_newP W254 (aty := .char) (w0 hw) (fun _ _ => trivial) (by decide) (cap := 7) (by decide) (by decide) (pc' := 197) (hb hy at_195) rfl (cells' := 5) (slots' := 37) rfl rfl (by decide) (by decide) (vs := [(.int 0), (.int 0), (.int 0), (.int 0), (.int 0), (.int 0), (.int 0)]) (dv := (.int 0)) rfl rfl ?_
    intro b255 T255 h255 k255 W255 E255 ge255 gz255 gb255 V255
    refine o_dup W255 (pc' := 198) (hb hy at_197) rfl rfl ?_
    refine o_iconst W255 (v := 0) (pc' := 199) (hb hy at_198) rfl rfl ?_
    refine o_bipush W255 (v := 100) (pc' := 201) (hb hy at_199) (by decide) rfl ?_
    refine o_stC W255 V255 (i := 0) (x' := (100 : Int32)) (by decide) (by decide) (by decide) (Nat.lt_of_sub_eq_succ rfl) (by decide) (vs' := [(.int 100), (.int 0), (.int 0), (.int 0), (.int 0), (.int 0), (.int 0)]) rfl gz255 (Or.inr gb255) (fun _ _ => trivial) (pc' := 202) (hb hy at_201) rfl ?_
    intro T256 h256 lo256 W256 R256 V256
    refine o_dup W256 (pc' := 203) (hb hy at_202) rfl rfl ?_
    refine o_iconst W256 (v := 1) (pc' := 204) (hb hy at_203) rfl rfl ?_
    refine o_bipush W256 (v := 105) (pc' := 206) (hb hy at_204) (by decide) rfl ?_
    refine o_stC W256 V256 (i := 1) (x' := (105 : Int32)) (by decide) (by decide) (by decide) (Nat.lt_of_sub_eq_succ rfl) (by decide) (vs' := [(.int 100), (.int 105), (.int 0), (.int 0), (.int 0), (.int 0), (.int 0)]) rfl gz255 (Or.inr gb255) (fun _ _ => trivial) (pc' := 207) (hb hy at_206) rfl ?_
    intro T257 h257 lo257 W257 R257 V257
    refine o_dup W257 (pc' := 208) (hb hy at_207) rfl rfl ?_
    refine o_iconst W257 (v := 2) (pc' := 209) (hb hy at_208) rfl rfl ?_
    refine o_bipush W257 (v := 115) (pc' := 211) (hb hy at_209) (by decide) rfl ?_
    refine o_stC W257 V257 (i := 2) (x' := (115 : Int32)) (by decide) (by decide) (by decide) (Nat.lt_of_sub_eq_succ rfl) (by decide) (vs' := [(.int 100), (.int 105), (.int 115), (.int 0), (.int 0), (.int 0), (.int 0)]) rfl gz255 (Or.inr gb255) (fun _ _ => trivial) (pc' := 212) (hb hy at_211) rfl ?_
    intro T258 h258 lo258 W258 R258 V258
    refine o_dup W258 (pc' := 213) (hb hy at_212) rfl rfl ?_
    refine o_iconst W258 (v := 3) (pc' := 214) (hb hy at_213) rfl rfl ?_
    refine o_bipush W258 (v := 116) (pc' := 216) (hb hy at_214) (by decide) rfl ?_
    refine o_stC W258 V258 (i := 3) (x' := (116 : Int32)) (by decide) (by decide) (by decide) (Nat.lt_of_sub_eq_succ rfl) (by decide) (vs' := [(.int 100), (.int 105), (.int 115), (.int 116), (.int 0), (.int 0), (.int 0)]) rfl gz255 (Or.inr gb255) (fun _ _ => trivial) (pc' := 217) (hb hy at_216) rfl ?_
    intro T259 h259 lo259 W259 R259 V259
    refine o_dup W259 (pc' := 218) (hb hy at_217) rfl rfl ?_
    refine o_iconst W259 (v := 4) (pc' := 219) (hb hy at_218) rfl rfl ?_
    refine o_bipush W259 (v := 97) (pc' := 221) (hb hy at_219) (by decide) rfl ?_
    refine o_stC W259 V259 (i := 4) (x' := (97 : Int32)) (by decide) (by decide) (by decide) (Nat.lt_of_sub_eq_succ rfl) (by decide) (vs' := [(.int 100), (.int 105), (.int 115), (.int 116), (.int 97), (.int 0), (.int 0)]) rfl gz255 (Or.inr gb255) (fun _ _ => trivial) (pc' := 222) (hb hy at_221) rfl ?_
    intro T260 h260 lo260 W260 R260 V260
    refine o_dup W260 (pc' := 223) (hb hy at_222) rfl rfl ?_
    refine o_iconst W260 (v := 5) (pc' := 224) (hb hy at_223) rfl rfl ?_
    refine o_bipush W260 (v := 110) (pc' := 226) (hb hy at_224) (by decide) rfl ?_
    refine o_stC W260 V260 (i := 5) (x' := (110 : Int32)) (by decide) (by decide) (by decide) (Nat.lt_of_sub_eq_succ rfl) (by decide) (vs' := [(.int 100), (.int 105), (.int 115), (.int 116), (.int 97), (.int 110), (.int 0)]) rfl gz255 (Or.inr gb255) (fun _ _ => trivial) (pc' := 227) (hb hy at_226) rfl ?_
    intro T261 h261 lo261 W261 R261 V261
    refine o_dup W261 (pc' := 228) (hb hy at_227) rfl rfl ?_
    refine o_bipush W261 (v := 6) (pc' := 230) (hb hy at_228) (by decide) rfl ?_
    refine o_bipush W261 (v := 99) (pc' := 232) (hb hy at_230) (by decide) rfl ?_
    refine o_stC W261 V261 (i := 6) (x' := (99 : Int32)) (by decide) (by decide) (by decide) (Nat.lt_of_sub_eq_succ rfl) (by decide) (vs' := [(.int 100), (.int 105), (.int 115), (.int 116), (.int 97), (.int 110), (.int 99)]) rfl gz255 (Or.inr gb255) (fun _ _ => trivial) (pc' := 233) (hb hy at_232) rfl ?_
    intro T262 h262 lo262 W262 R262 V262
    refine o_astore W262 (L' := #[.val (.int p0), .val (.int p1), .val (.int p2), .val (.int p3), .val (.int (p0 &&& (3 : Int32))), .val (.int 1), .val (.int (p2 &&& (255 : Int32))), .val (.ref b224), .val (.ref b232), .val (.ref b245), .val (.ref b254), .val (.ref b255), .unset, .unset, .unset, .unset, .unset, .unset, .unset]) (pc' := 235) (hb hy at_233) rfl rfl rfl ?_
    refine o_bipush W262 (v := 8) (pc' := 237) (hb hy at_235) (by decide) rfl ?_
    refine o_newP W262 (aty := .char) (w0 hw) (fun _ _ => trivial) (by decide) (cap := 8) (by decide) (by decide) (pc' := 239) (hb hy at_237) rfl (cells' := 6) (slots' := 45) rfl rfl (by decide) (by decide) (vs := [(.int 0), (.int 0), (.int 0), (.int 0), (.int 0), (.int 0), (.int 0), (.int 0)]) (dv := (.int 0)) rfl rfl ?_
    intro b263 T263 h263 k263 W263 E263 ge263 gz263 gb263 V263
    refine o_dup W263 (pc' := 240) (hb hy at_239) rfl rfl ?_
    refine o_iconst W263 (v := 0) (pc' := 241) (hb hy at_240) rfl rfl ?_
    refine o_bipush W263 (v := 117) (pc' := 243) (hb hy at_241) (by decide) rfl ?_
    refine o_stC W263 V263 (i := 0) (x' := (117 : Int32)) (by decide) (by decide) (by decide) (Nat.lt_of_sub_eq_succ rfl) (by decide) (vs' := [(.int 117), (.int 0), (.int 0), (.int 0), (.int 0), (.int 0), (.int 0), (.int 0)]) rfl gz263 (Or.inr gb263) (fun _ _ => trivial) (pc' := 244) (hb hy at_243) rfl ?_
    intro T264 h264 lo264 W264 R264 V264
    refine o_dup W264 (pc' := 245) (hb hy at_244) rfl rfl ?_
    refine o_iconst W264 (v := 1) (pc' := 246) (hb hy at_245) rfl rfl ?_
    refine o_bipush W264 (v := 110) (pc' := 248) (hb hy at_246) (by decide) rfl ?_
    refine o_stC W264 V264 (i := 1) (x' := (110 : Int32)) (by decide) (by decide) (by decide) (Nat.lt_of_sub_eq_succ rfl) (by decide) (vs' := [(.int 117), (.int 110), (.int 0), (.int 0), (.int 0), (.int 0), (.int 0), (.int 0)]) rfl gz263 (Or.inr gb263) (fun _ _ => trivial) (pc' := 249) (hb hy at_248) rfl ?_
    intro T265 h265 lo265 W265 R265 V265
    refine o_dup W265 (pc' := 250) (hb hy at_249) rfl rfl ?_
    refine o_iconst W265 (v := 2) (pc' := 251) (hb hy at_250) rfl rfl ?_
    refine o_bipush W265 (v := 105) (pc' := 253) (hb hy at_251) (by decide) rfl ?_
    refine o_stC W265 V265 (i := 2) (x' := (105 : Int32)) (by decide) (by decide) (by decide) (Nat.lt_of_sub_eq_succ rfl) (by decide) (vs' := [(.int 117), (.int 110), (.int 105), (.int 0), (.int 0), (.int 0), (.int 0), (.int 0)]) rfl gz263 (Or.inr gb263) (fun _ _ => trivial) (pc' := 254) (hb hy at_253) rfl ?_
    intro T266 h266 lo266 W266 R266 V266
    refine o_dup W266 (pc' := 255) (hb hy at_254) rfl rfl ?_
    refine o_iconst W266 (v := 3) (pc' := 256) (hb hy at_255) rfl rfl ?_
    refine o_bipush W266 (v := 102) (pc' := 258) (hb hy at_256) (by decide) rfl ?_
    refine o_stC W266 V266 (i := 3) (x' := (102 : Int32)) (by decide) (by decide) (by decide) (Nat.lt_of_sub_eq_succ rfl) (by decide) (vs' := [(.int 117), (.int 110), (.int 105), (.int 102), (.int 0), (.int 0), (.int 0), (.int 0)]) rfl gz263 (Or.inr gb263) (fun _ _ => trivial) (pc' := 259) (hb hy at_258) rfl ?_
    intro T267 h267 lo267 W267 R267 V267
    refine o_dup W267 (pc' := 260) (hb hy at_259) rfl rfl ?_
    refine o_iconst W267 (v := 4) (pc' := 261) (hb hy at_260) rfl rfl ?_
    refine o_bipush W267 (v := 111) (pc' := 263) (hb hy at_261) (by decide) rfl ?_
    refine o_stC W267 V267 (i := 4) (x' := (111 : Int32)) (by decide) (by decide) (by decide) (Nat.lt_of_sub_eq_succ rfl) (by decide) (vs' := [(.int 117), (.int 110), (.int 105), (.int 102), (.int 111), (.int 0), (.int 0), (.int 0)]) rfl gz263 (Or.inr gb263) (fun _ _ => trivial) (pc' := 264) (hb hy at_263) rfl ?_
    intro T268 h268 lo268 W268 R268 V268
    refine o_dup W268 (pc' := 265) (hb hy at_264) rfl rfl ?_
    refine o_iconst W268 (v := 5) (pc' := 266) (hb hy at_265) rfl rfl ?_
    refine o_bipush W268 (v := 114) (pc' := 268) (hb hy at_266) (by decide) rfl ?_
    refine o_stC W268 V268 (i := 5) (x' := (114 : Int32)) (by decide) (by decide) (by decide) (Nat.lt_of_sub_eq_succ rfl) (by decide) (vs' := [(.int 117), (.int 110), (.int 105), (.int 102), (.int 111), (.int 114), (.int 0), (.int 0)]) rfl gz263 (Or.inr gb263) (fun _ _ => trivial) (pc' := 269) (hb hy at_268) rfl ?_
    intro T269 h269 lo269 W269 R269 V269
    refine o_dup W269 (pc' := 270) (hb hy at_269) rfl rfl ?_
    refine o_bipush W269 (v := 6) (pc' := 272) (hb hy at_270) (by decide) rfl ?_
    refine o_bipush W269 (v := 109) (pc' := 274) (hb hy at_272) (by decide) rfl ?_
    refine o_stC W269 V269 (i := 6) (x' := (109 : Int32)) (by decide) (by decide) (by decide) (Nat.lt_of_sub_eq_succ rfl) (by decide) (vs' := [(.int 117), (.int 110), (.int 105), (.int 102), (.int 111), (.int 114), (.int 109), (.int 0)]) rfl gz263 (Or.inr gb263) (fun _ _ => trivial) (pc' := 275) (hb hy at_274) rfl ?_
    intro T270 h270 lo270 W270 R270 V270
    refine o_dup W270 (pc' := 276) (hb hy at_275) rfl rfl ?_
    refine o_bipush W270 (v := 7) (pc' := 278) (hb hy at_276) (by decide) rfl ?_
    refine o_bipush W270 (v := 32) (pc' := 280) (hb hy at_278) (by decide) rfl ?_
    refine o_stC W270 V270 (i := 7) (x' := (32 : Int32)) (by decide) (by decide) (by decide) (Nat.lt_of_sub_eq_succ rfl) (by decide) (vs' := [(.int 117), (.int 110), (.int 105), (.int 102), (.int 111), (.int 114), (.int 109), (.int 32)]) rfl gz263 (Or.inr gb263) (fun _ _ => trivial) (pc' := 281) (hb hy at_280) rfl ?_
    intro T271 h271 lo271 W271 R271 V271
    refine o_astore W271 (L' := #[.val (.int p0), .val (.int p1), .val (.int p2), .val (.int p3), .val (.int (p0 &&& (3 : Int32))), .val (.int 1), .val (.int (p2 &&& (255 : Int32))), .val (.ref b224), .val (.ref b232), .val (.ref b245), .val (.ref b254), .val (.ref b255), .val (.ref b263), .unset, .unset, .unset, .unset, .unset, .unset]) (pc' := 283) (hb hy at_281) rfl rfl rfl ?_
    rcases own_and3 p0 with ek272 | ek272 | ek272 | ek272
    · rw [ek272]
      refine o_iload W271 (pc' := 285) (hb hy at_283) rfl rfl ?_
      refine o_iconst W271 (v := 3) (pc' := 286) (hb hy at_285) rfl rfl ?_
      refine o_icmpN W271 (pc' := 289) (hb hy at_286) (XT.ii_ge_f (by decide)) rfl ?_
      refine o_iload W271 (pc' := 291) (hb hy at_289) rfl rfl ?_
      refine o_ifN W271 (pc' := 294) (hb hy at_291) (XT.i0_ne_f (by decide)) rfl ?_
      refine o_aload W271 (pc' := 296) (hb hy at_294) rfl rfl rfl ?_
      refine o_astore W271 (L' := #[.val (.int p0), .val (.int p1), .val (.int p2), .val (.int p3), .val (.int 0), .val (.int 1), .val (.int (p2 &&& (255 : Int32))), .val (.ref b224), .val (.ref b232), .val (.ref b245), .val (.ref b254), .val (.ref b255), .val (.ref b263), .unset, .unset, .val (.ref b224), .unset, .unset, .unset]) (pc' := 298) (hb hy at_296) rfl rfl rfl ?_
      refine o_getS W271 (w1 hw) Via.refl (SgO1_UNIFORM.ext W271.ox) (pc' := 301) (hb hy at_298) rfl ?_
      intro T273 W273
      refine o_astore W273 (L' := #[.val (.int p0), .val (.int p1), .val (.int p2), .val (.int p3), .val (.int 0), .val (.int 1), .val (.int (p2 &&& (255 : Int32))), .val (.ref b224), .val (.ref b232), .val (.ref b245), .val (.ref b254), .val (.ref b255), .val (.ref b263), .unset, .unset, .val (.ref b224), .val (.ref gO1), .unset, .unset]) (pc' := 303) (hb hy at_301) rfl rfl rfl ?_
      refine o_goto W273 (pc' := 333) (hb hy at_303) (by decide) rfl ?_
      refine o_iloadN W273 (pc' := 334) (hb hy at_333) rfl rfl ?_
      refine o_ldcI W273 (w4 hw) (pc' := 336) (hb hy at_334) rfl ?_
      refine o_iand W273 (v := (p1 &&& (2147483647 : Int32))) (pc' := 337) (hb hy at_336) rfl rfl ?_
      refine o_aload W273 (pc' := 339) (hb hy at_337) rfl rfl rfl ?_
      have c274 := (((((((((((((V231.ext E232).other R233 (own_ne V231.lt ge232)).other R234 (own_ne V231.lt ge232)).other R235 (own_ne V231.lt ge232)).other R236 (own_ne V231.lt ge232)).other R237 (own_ne V231.lt ge232)).other R238 (own_ne V231.lt ge232)).other R239 (own_ne V231.lt ge232)).other R240 (own_ne V231.lt ge232)).other R241 (own_ne V231.lt ge232)).other R242 (own_ne V231.lt ge232)).other R243 (own_ne V231.lt ge232)).other R244 (own_ne V231.lt ge232))
      have c275 := ((((((((((c274.ext E245).other R246 (own_ne c274.lt ge245)).other R247 (own_ne c274.lt ge245)).other R248 (own_ne c274.lt ge245)).other R249 (own_ne c274.lt ge245)).other R250 (own_ne c274.lt ge245)).other R251 (own_ne c274.lt ge245)).other R252 (own_ne c274.lt ge245)).other R253 (own_ne c274.lt ge245)).ext E254)
      have c276 := ((((((((c275.ext E255).other R256 (own_ne c275.lt ge255)).other R257 (own_ne c275.lt ge255)).other R258 (own_ne c275.lt ge255)).other R259 (own_ne c275.lt ge255)).other R260 (own_ne c275.lt ge255)).other R261 (own_ne c275.lt ge255)).other R262 (own_ne c275.lt ge255))
      have c277 := ((((((((((((((((((((((((((((((((((((((((V231.ext E232).other R233 (own_ne V231.lt ge232)).other R234 (own_ne V231.lt ge232)).other R235 (own_ne V231.lt ge232)).other R236 (own_ne V231.lt ge232)).other R237 (own_ne V231.lt ge232)).other R238 (own_ne V231.lt ge232)).other R239 (own_ne V231.lt ge232)).other R240 (own_ne V231.lt ge232)).other R241 (own_ne V231.lt ge232)).other R242 (own_ne V231.lt ge232)).other R243 (own_ne V231.lt ge232)).other R244 (own_ne V231.lt ge232)).ext E245).other R246 (own_ne c274.lt ge245)).other R247 (own_ne c274.lt ge245)).other R248 (own_ne c274.lt ge245)).other R249 (own_ne c274.lt ge245)).other R250 (own_ne c274.lt ge245)).other R251 (own_ne c274.lt ge245)).other R252 (own_ne c274.lt ge245)).other R253 (own_ne c274.lt ge245)).ext E254).ext E255).other R256 (own_ne c275.lt ge255)).other R257 (own_ne c275.lt ge255)).other R258 (own_ne c275.lt ge255)).other R259 (own_ne c275.lt ge255)).other R260 (own_ne c275.lt ge255)).other R261 (own_ne c275.lt ge255)).other R262 (own_ne c275.lt ge255)).ext E263).other R264 (own_ne c276.lt ge263)).other R265 (own_ne c276.lt ge263)).other R266 (own_ne c276.lt ge263)).other R267 (own_ne c276.lt ge263)).other R268 (own_ne c276.lt ge263)).other R269 (own_ne c276.lt ge263)).other R270 (own_ne c276.lt ge263)).other R271 (own_ne c276.lt ge263))
      refine o_len W273 c277 (pc' := 340) (hb hy at_339) rfl ?_
      rcases own_rem7 p1 with ek278 | ek278 | ek278 | ek278 | ek278 | ek278 | ek278
      · refine o_irem W273 (v := 0) (pc' := 341) (hb hy at_340) (by decide) ek278 rfl ?_
        refine o_istore W273 (L' := #[.val (.int p0), .val (.int p1), .val (.int p2), .val (.int p3), .val (.int 0), .val (.int 1), .val (.int (p2 &&& (255 : Int32))), .val (.ref b224), .val (.ref b232), .val (.ref b245), .val (.ref b254), .val (.ref b255), .val (.ref b263), .unset, .unset, .val (.ref b224), .val (.ref gO1), .val (.int 0), .unset]) (pc' := 343) (hb hy at_341) rfl rfl ?_
        refine o_aload W273 (pc' := 345) (hb hy at_343) rfl rfl rfl ?_
        refine o_iload W273 (pc' := 347) (hb hy at_345) rfl rfl ?_
        refine o_caload W273 c277 (x := (117 : Int32)) (i := 0) (by decide) (by decide) (by decide) rfl (pc' := 348) (hb hy at_347) rfl ?_
        refine o_istore W273 (L' := #[.val (.int p0), .val (.int p1), .val (.int p2), .val (.int p3), .val (.int 0), .val (.int 1), .val (.int (p2 &&& (255 : Int32))), .val (.ref b224), .val (.ref b232), .val (.ref b245), .val (.ref b254), .val (.ref b255), .val (.ref b263), .unset, .unset, .val (.ref b224), .val (.ref gO1), .val (.int 0), .val (.int 117)]) (pc' := 350) (hb hy at_348) rfl rfl ?_
        refine o_iload W273 (pc' := 352) (hb hy at_350) rfl rfl ?_
        refine o_ifN W273 (pc' := 355) (hb hy at_352) (XT.i0_eq_f (by decide)) rfl ?_
        refine o_aload W273 (pc' := 357) (hb hy at_355) rfl rfl rfl ?_
        refine o_iload W273 (pc' := 359) (hb hy at_357) rfl rfl ?_
        refine o_iload W273 (pc' := 361) (hb hy at_359) rfl rfl ?_
        refine o_stC W273 c277 (i := 0) (x' := (p2 &&& (255 : Int32))) (by decide) (by decide) (by decide) (Nat.lt_of_sub_eq_succ rfl) (own_i2c (own_b255 _)) (vs' := [(.int (p2 &&& (255 : Int32))), (.int 110), (.int 105), (.int 102), (.int 111), (.int 114), (.int 109)]) rfl gz224 (Or.inr gb224) (fun _ _ => trivial) (pc' := 362) (hb hy at_361) rfl ?_
        intro T279 h279 lo279 W279 R279 V279
        refine o_new W279 (w5 hw) (w6 hw) (w7 hw) (fun _ _ => trivial) (pc' := 365) (hb hy at_362) rfl (cells' := 7) (slots' := 49) rfl rfl (by decide) (by decide) ?_
        intro b280 T280 h280 W280 E280 ge280 gz280 gb280 A280 D280
        have Fb280_coder : Fld Z h280 b280 "java/lang/String" "coder" "B" (.int 0) := D280 (Or.inr (w31 hw)) (ty := .byte) (by decide)
        have Fb280_value : Fld Z h280 b280 "java/lang/String" "value" "[B" .null := D280 (Or.inr (w33 hw)) (ty := (.array .byte)) (by decide)
        refine o_dup W280 (pc' := 366) (hb hy at_365) rfl rfl ?_
        refine o_aload W280 (pc' := 368) (hb hy at_366) rfl rfl rfl ?_
        have c281 := (V279.ext E280)
        have ok282 : own_ok [(p2 &&& (255 : Int32)), (110 : Int32), (105 : Int32), (102 : Int32), (111 : Int32), (114 : Int32), (109 : Int32)] := ⟨by simp only [List.mem_cons, List.not_mem_nil, or_false, forall_eq_or_imp, forall_eq, false_imp_iff, implies_true]; exact ⟨(own_b255 _), (by unfold own_b; decide), (by unfold own_b; decide), (by unfold own_b; decide), (by unfold own_b; decide), (by unfold own_b; decide), (by unfold own_b; decide)⟩, Nat.le_of_ble_eq_true rfl⟩
        refine o_special W280 (y := (⟨"java/lang/String", "<init>", "([C)V"⟩ : MethodName)) rfl (w8 hw) (w9 hw) (w10 hw) (by decide) (a := b280) (argsL := [(.ref b224)]) (StrChars.Road.backV (W := 1) W280.2.2.2.1 (own_hV hw) (kI := 4) (w6 hw) (cs := [(p2 &&& (255 : Int32)), (110 : Int32), (105 : Int32), (102 : Int32), (111 : Int32), (114 : Int32), (109 : Int32)]) (bs := [((p2 &&& (255 : Int32))).toInt8.toInt32, ((110 : Int32)).toInt8.toInt32, ((105 : Int32)).toInt8.toInt32, ((102 : Int32)).toInt8.toInt32, ((111 : Int32)).toInt8.toInt32, ((114 : Int32)).toInt8.toInt32, ((109 : Int32)).toInt8.toInt32]) (n := 7) (n0 := Z.heap.size) gz280 W280.zs A280 Fb280_value Fb280_coder c281 (SgCS.ext W280.ox) NgCS rfl rfl (by decide) (by decide) ok282.1 rfl (by decide) (by decide)) (by rw [hml]; rfl) (lenOf pd0 rfl) (S := [(.ref b280)]) rfl (by exact Nat.le_of_eq rfl) (pc' := 371) (hb hy at_368) rfl (cells' := 8) (slots' := 56) rfl rfl (by decide) (by decide) (wy := [b280]) (fun _ _ _ q => ⟨q.2.1, q.2.2.1⟩) (allS ⟨gz280, (Or.inr gb280)⟩ all0) (fun _ _ => trivial) ?_
        intro v283 T283 h283 lo283 W283 K283 q283
        obtain ⟨rfl, -, -, X283, Fc283, t283, kb283, gz283, ge283, -, Fv283, A283⟩ := q283
        have B283 : Arv Z h283 t283 kb283 .byte (7 : Int32) [(.int (StrChars.lo8 (p2 &&& (255 : Int32)))), (.int (StrChars.lo8 (110 : Int32))), (.int (StrChars.lo8 (105 : Int32))), (.int (StrChars.lo8 (102 : Int32))), (.int (StrChars.lo8 (111 : Int32))), (.int (StrChars.lo8 (114 : Int32))), (.int (StrChars.lo8 (109 : Int32)))] (.int 0) := A283
        show Gl _ _ _ _ _ _ _ _ [(.ref b280)]
        refine o_astore W283 (L' := #[.val (.int p0), .val (.int p1), .val (.int p2), .val (.int p3), .val (.int 0), .val (.int 1), .val (.int (p2 &&& (255 : Int32))), .val (.ref b224), .val (.ref b232), .val (.ref b245), .val (.ref b254), .val (.ref b255), .val (.ref b263), .val (.ref b280), .unset, .val (.ref b224), .val (.ref gO1), .val (.int 0), .val (.int 117)]) (pc' := 373) (hb hy at_371) rfl rfl rfl ?_
        refine o_iload W283 (pc' := 375) (hb hy at_373) rfl rfl ?_
        refine o_ifN W283 (pc' := 378) (hb hy at_375) (XT.i0_eq_f (by decide)) rfl ?_
        refine o_iload W283 (pc' := 380) (hb hy at_378) rfl rfl ?_
        refine o_iload W283 (pc' := 382) (hb hy at_380) rfl rfl ?_
        rcases (Classical.em ((p2 &&& (255 : Int32)) = (117 : Int32))).symm with hq284 | hq284
        · refine o_icmpY W283 (pc' := 392) (hb hy at_382) (XT.ii_ne_t hq284) (by decide) rfl ?_
          refine o_aconstNull W283 (pc' := 393) (hb hy at_392) rfl ?_
          refine o_astore W283 (L' := #[.val (.int p0), .val (.int p1), .val (.int p2), .val (.int p3), .val (.int 0), .val (.int 1), .val (.int (p2 &&& (255 : Int32))), .val (.ref b224), .val (.ref b232), .val (.ref b245), .val (.ref b254), .val (.ref b255), .val (.ref b263), .val (.ref b280), .val .null, .val (.ref b224), .val (.ref gO1), .val (.int 0), .val (.int 117)]) (pc' := 395) (hb hy at_393) rfl rfl rfl ?_
          refine o_goto W283 (pc' := 503) (hb hy at_395) (by decide) rfl ?_
          refine o_aload W283 (pc' := 505) (hb hy at_503) rfl rfl rfl ?_
          refine o_static W283 (y := (⟨"com/example/sessn/sessn/session/Weights", "labelled", "(Ljava/lang/String;)Lcom/example/sessn/sessn/session/Weights;"⟩ : MethodName)) (w34 hw) (w35 hw) (w2 hw) (w36 hw) (by decide) (argsL := [(.ref b280)]) (CtrN.back (Wd := 0) W283 (rm9 l Z a0 hw gCS gO1 gO2 gO4 gO6 gO8 gO9 gO10 gO11 gO12 gO13 k_gO2 k_gO9 k_gO11 k_gO13 b280 t283 kb283 [(p2 &&& (255 : Int32)), (110 : Int32), (105 : Int32), (102 : Int32), (111 : Int32), (114 : Int32), (109 : Int32)] h283 W283.old SgO2__VALUES VgO2 XgO2 FitgO2 FgO1_label SgCS NgCS XgO8 FgO8_value FgO8_coder VgO9 X283 Fv283 Fc283 B283 ok282 (own_eqN (by simp [hq284, Ne.symm hq284])) FgO4_label XgO10 FgO10_value FgO10_coder VgO11 (own_eqN (by simp)) FgO6_label XgO12 FgO12_value FgO12_coder VgO13 (own_eqN (by simp))) (w36 hw) (w2 hw) (by decide) (by decide)) (by rw [hml]; rfl) (lenOf pd3 rfl) (S := []) rfl (by exact Nat.le_of_eq rfl) (pc' := 508) (hb hy at_505) rfl (cells' := 9) (slots' := 59) rfl rfl (by decide) (by decide) (wy := []) (fun _ _ _ q => ⟨q.1, q.2.1⟩) all0 (fun _ _ => trivial) ?_
          intro v285 T285 h285 lo285 W285 K285 q285
          obtain rfl := q285.2.2
          show Gl _ _ _ _ _ _ _ _ [.null]
          refine o_aload W285 (pc' := 510) (hb hy at_508) rfl rfl rfl ?_
          refine o_acmpN W285 (pc' := 513) (hb hy at_510) rfl rfl (XT.aa_ne_f rfl) rfl ?_
          refine o_iconst W285 (v := 1) (pc' := 514) (hb hy at_513) rfl rfl ?_
          refine o_goto W285 (pc' := 518) (hb hy at_514) (by decide) rfl ?_
          exact o_retN W285 hlk (t := .boolean) hret (by simp) (z' := (1 : Int32)) (by decide) (hb hy at_518) (by decide) (by decide) rfl
        · refine o_icmpN W283 (pc' := 385) (hb hy at_382) (XT.ii_ne_f hq284) rfl ?_
          refine o_aload W283 (pc' := 387) (hb hy at_385) rfl rfl rfl ?_
          refine o_astore W283 (L' := #[.val (.int p0), .val (.int p1), .val (.int p2), .val (.int p3), .val (.int 0), .val (.int 1), .val (.int (p2 &&& (255 : Int32))), .val (.ref b224), .val (.ref b232), .val (.ref b245), .val (.ref b254), .val (.ref b255), .val (.ref b263), .val (.ref b280), .val (.ref gO1), .val (.ref b224), .val (.ref gO1), .val (.int 0), .val (.int 117)]) (pc' := 389) (hb hy at_387) rfl rfl rfl ?_
          refine o_goto W283 (pc' := 395) (hb hy at_389) (by decide) rfl ?_
          refine o_goto W283 (pc' := 503) (hb hy at_395) (by decide) rfl ?_
          refine o_aload W283 (pc' := 505) (hb hy at_503) rfl rfl rfl ?_
          refine o_static W283 (y := (⟨"com/example/sessn/sessn/session/Weights", "labelled", "(Ljava/lang/String;)Lcom/example/sessn/sessn/session/Weights;"⟩ : MethodName)) (w34 hw) (w35 hw) (w2 hw) (w36 hw) (by decide) (argsL := [(.ref b280)]) (CtrN.back (Wd := 0) W283 (rm2 l Z a0 hw gCS gO1 gO2 gO4 gO6 gO8 gO9 gO10 gO11 gO12 gO13 k_gO2 k_gO9 k_gO11 k_gO13 b280 t283 kb283 [(p2 &&& (255 : Int32)), (110 : Int32), (105 : Int32), (102 : Int32), (111 : Int32), (114 : Int32), (109 : Int32)] h283 W283.old SgO2__VALUES VgO2 XgO2 FitgO2 FgO1_label SgCS NgCS XgO8 FgO8_value FgO8_coder VgO9 X283 Fv283 Fc283 B283 ok282 (own_eqY (by simp [hq284])) FgO4_label XgO10 FgO10_value FgO10_coder VgO11 (own_eqN (by simp)) FgO6_label XgO12 FgO12_value FgO12_coder VgO13 (own_eqN (by simp))) (w36 hw) (w2 hw) (by decide) (by decide)) (by rw [hml]; rfl) (lenOf pd3 rfl) (S := []) rfl (by exact Nat.le_of_eq rfl) (pc' := 508) (hb hy at_505) rfl (cells' := 9) (slots' := 59) rfl rfl (by decide) (by decide) (wy := []) (fun _ _ _ q => ⟨q.1, q.2.1⟩) all0 (fun _ _ => trivial) ?_
          intro v286 T286 h286 lo286 W286 K286 q286
          obtain rfl := q286.2.2
          show Gl _ _ _ _ _ _ _ _ [(.ref gO1)]
          refine o_aload W286 (pc' := 510) (hb hy at_508) rfl rfl rfl ?_
          refine o_acmpN W286 (pc' := 513) (hb hy at_510) rfl rfl (XT.aa_ne_f rfl) rfl ?_
          refine o_iconst W286 (v := 1) (pc' := 514) (hb hy at_513) rfl rfl ?_
          refine o_goto W286 (pc' := 518) (hb hy at_514) (by decide) rfl ?_
          exact o_retN W286 hlk (t := .boolean) hret (by simp) (z' := (1 : Int32)) (by decide) (hb hy at_518) (by decide) (by decide) rfl
      · refine o_irem W273 (v := 1) (pc' := 341) (hb hy at_340) (by decide) ek278 rfl ?_
        refine o_istore W273 (L' := #[.val (.int p0), .val (.int p1), .val (.int p2), .val (.int p3), .val (.int 0), .val (.int 1), .val (.int (p2 &&& (255 : Int32))), .val (.ref b224), .val (.ref b232), .val (.ref b245), .val (.ref b254), .val (.ref b255), .val (.ref b263), .unset, .unset, .val (.ref b224), .val (.ref gO1), .val (.int 1), .unset]) (pc' := 343) (hb hy at_341) rfl rfl ?_
        refine o_aload W273 (pc' := 345) (hb hy at_343) rfl rfl rfl ?_
        refine o_iload W273 (pc' := 347) (hb hy at_345) rfl rfl ?_
        refine o_caload W273 c277 (x := (110 : Int32)) (i := 1) (by decide) (by decide) (by decide) rfl (pc' := 348) (hb hy at_347) rfl ?_
        refine o_istore W273 (L' := #[.val (.int p0), .val (.int p1), .val (.int p2), .val (.int p3), .val (.int 0), .val (.int 1), .val (.int (p2 &&& (255 : Int32))), .val (.ref b224), .val (.ref b232), .val (.ref b245), .val (.ref b254), .val (.ref b255), .val (.ref b263), .unset, .unset, .val (.ref b224), .val (.ref gO1), .val (.int 1), .val (.int 110)]) (pc' := 350) (hb hy at_348) rfl rfl ?_
        refine o_iload W273 (pc' := 352) (hb hy at_350) rfl rfl ?_
        refine o_ifN W273 (pc' := 355) (hb hy at_352) (XT.i0_eq_f (by decide)) rfl ?_
        refine o_aload W273 (pc' := 357) (hb hy at_355) rfl rfl rfl ?_
        refine o_iload W273 (pc' := 359) (hb hy at_357) rfl rfl ?_
        refine o_iload W273 (pc' := 361) (hb hy at_359) rfl rfl ?_
        refine o_stC W273 c277 (i := 1) (x' := (p2 &&& (255 : Int32))) (by decide) (by decide) (by decide) (Nat.lt_of_sub_eq_succ rfl) (own_i2c (own_b255 _)) (vs' := [(.int 117), (.int (p2 &&& (255 : Int32))), (.int 105), (.int 102), (.int 111), (.int 114), (.int 109)]) rfl gz224 (Or.inr gb224) (fun _ _ => trivial) (pc' := 362) (hb hy at_361) rfl ?_
        intro T287 h287 lo287 W287 R287 V287
        refine o_new W287 (w5 hw) (w6 hw) (w7 hw) (fun _ _ => trivial) (pc' := 365) (hb hy at_362) rfl (cells' := 7) (slots' := 49) rfl rfl (by decide) (by decide) ?_
        intro b288 T288 h288 W288 E288 ge288 gz288 gb288 A288 D288
        have Fb288_coder : Fld Z h288 b288 "java/lang/String" "coder" "B" (.int 0) := D288 (Or.inr (w31 hw)) (ty := .byte) (by decide)
        have Fb288_value : Fld Z h288 b288 "java/lang/String" "value" "[B" .null := D288 (Or.inr (w33 hw)) (ty := (.array .byte)) (by decide)
        refine o_dup W288 (pc' := 366) (hb hy at_365) rfl rfl ?_
        refine o_aload W288 (pc' := 368) (hb hy at_366) rfl rfl rfl ?_
        have c289 := (V287.ext E288)
        have ok290 : own_ok [(117 : Int32), (p2 &&& (255 : Int32)), (105 : Int32), (102 : Int32), (111 : Int32), (114 : Int32), (109 : Int32)] := ⟨by simp only [List.mem_cons, List.not_mem_nil, or_false, forall_eq_or_imp, forall_eq, false_imp_iff, implies_true]; exact ⟨(by unfold own_b; decide), (own_b255 _), (by unfold own_b; decide), (by unfold own_b; decide), (by unfold own_b; decide), (by unfold own_b; decide), (by unfold own_b; decide)⟩, Nat.le_of_ble_eq_true rfl⟩
        refine o_special W288 (y := (⟨"java/lang/String", "<init>", "([C)V"⟩ : MethodName)) rfl (w8 hw) (w9 hw) (w10 hw) (by decide) (a := b288) (argsL := [(.ref b224)]) (StrChars.Road.backV (W := 1) W288.2.2.2.1 (own_hV hw) (kI := 4) (w6 hw) (cs := [(117 : Int32), (p2 &&& (255 : Int32)), (105 : Int32), (102 : Int32), (111 : Int32), (114 : Int32), (109 : Int32)]) (bs := [((117 : Int32)).toInt8.toInt32, ((p2 &&& (255 : Int32))).toInt8.toInt32, ((105 : Int32)).toInt8.toInt32, ((102 : Int32)).toInt8.toInt32, ((111 : Int32)).toInt8.toInt32, ((114 : Int32)).toInt8.toInt32, ((109 : Int32)).toInt8.toInt32]) (n := 7) (n0 := Z.heap.size) gz288 W288.zs A288 Fb288_value Fb288_coder c289 (SgCS.ext W288.ox) NgCS rfl rfl (by decide) (by decide) ok290.1 rfl (by decide) (by decide)) (by rw [hml]; rfl) (lenOf pd0 rfl) (S := [(.ref b288)]) rfl (by exact Nat.le_of_eq rfl) (pc' := 371) (hb hy at_368) rfl (cells' := 8) (slots' := 56) rfl rfl (by decide) (by decide) (wy := [b288]) (fun _ _ _ q => ⟨q.2.1, q.2.2.1⟩) (allS ⟨gz288, (Or.inr gb288)⟩ all0) (fun _ _ => trivial) ?_
        intro v291 T291 h291 lo291 W291 K291 q291
        obtain ⟨rfl, -, -, X291, Fc291, t291, kb291, gz291, ge291, -, Fv291, A291⟩ := q291
        have B291 : Arv Z h291 t291 kb291 .byte (7 : Int32) [(.int (StrChars.lo8 (117 : Int32))), (.int (StrChars.lo8 (p2 &&& (255 : Int32)))), (.int (StrChars.lo8 (105 : Int32))), (.int (StrChars.lo8 (102 : Int32))), (.int (StrChars.lo8 (111 : Int32))), (.int (StrChars.lo8 (114 : Int32))), (.int (StrChars.lo8 (109 : Int32)))] (.int 0) := A291
        show Gl _ _ _ _ _ _ _ _ [(.ref b288)]
        refine o_astore W291 (L' := #[.val (.int p0), .val (.int p1), .val (.int p2), .val (.int p3), .val (.int 0), .val (.int 1), .val (.int (p2 &&& (255 : Int32))), .val (.ref b224), .val (.ref b232), .val (.ref b245), .val (.ref b254), .val (.ref b255), .val (.ref b263), .val (.ref b288), .unset, .val (.ref b224), .val (.ref gO1), .val (.int 1), .val (.int 110)]) (pc' := 373) (hb hy at_371) rfl rfl rfl ?_
        refine o_iload W291 (pc' := 375) (hb hy at_373) rfl rfl ?_
        refine o_ifN W291 (pc' := 378) (hb hy at_375) (XT.i0_eq_f (by decide)) rfl ?_
        refine o_iload W291 (pc' := 380) (hb hy at_378) rfl rfl ?_
        refine o_iload W291 (pc' := 382) (hb hy at_380) rfl rfl ?_
        rcases (Classical.em ((p2 &&& (255 : Int32)) = (110 : Int32))).symm with hq292 | hq292
        · refine o_icmpY W291 (pc' := 392) (hb hy at_382) (XT.ii_ne_t hq292) (by decide) rfl ?_
          refine o_aconstNull W291 (pc' := 393) (hb hy at_392) rfl ?_
          refine o_astore W291 (L' := #[.val (.int p0), .val (.int p1), .val (.int p2), .val (.int p3), .val (.int 0), .val (.int 1), .val (.int (p2 &&& (255 : Int32))), .val (.ref b224), .val (.ref b232), .val (.ref b245), .val (.ref b254), .val (.ref b255), .val (.ref b263), .val (.ref b288), .val .null, .val (.ref b224), .val (.ref gO1), .val (.int 1), .val (.int 110)]) (pc' := 395) (hb hy at_393) rfl rfl rfl ?_
          refine o_goto W291 (pc' := 503) (hb hy at_395) (by decide) rfl ?_
          refine o_aload W291 (pc' := 505) (hb hy at_503) rfl rfl rfl ?_
          refine o_static W291 (y := (⟨"com/example/sessn/sessn/session/Weights", "labelled", "(Ljava/lang/String;)Lcom/example/sessn/sessn/session/Weights;"⟩ : MethodName)) (w34 hw) (w35 hw) (w2 hw) (w36 hw) (by decide) (argsL := [(.ref b288)]) (CtrN.back (Wd := 0) W291 (rm9 l Z a0 hw gCS gO1 gO2 gO4 gO6 gO8 gO9 gO10 gO11 gO12 gO13 k_gO2 k_gO9 k_gO11 k_gO13 b288 t291 kb291 [(117 : Int32), (p2 &&& (255 : Int32)), (105 : Int32), (102 : Int32), (111 : Int32), (114 : Int32), (109 : Int32)] h291 W291.old SgO2__VALUES VgO2 XgO2 FitgO2 FgO1_label SgCS NgCS XgO8 FgO8_value FgO8_coder VgO9 X291 Fv291 Fc291 B291 ok290 (own_eqN (by simp [hq292, Ne.symm hq292])) FgO4_label XgO10 FgO10_value FgO10_coder VgO11 (own_eqN (by simp)) FgO6_label XgO12 FgO12_value FgO12_coder VgO13 (own_eqN (by simp))) (w36 hw) (w2 hw) (by decide) (by decide)) (by rw [hml]; rfl) (lenOf pd3 rfl) (S := []) rfl (by exact Nat.le_of_eq rfl) (pc' := 508) (hb hy at_505) rfl (cells' := 9) (slots' := 59) rfl rfl (by decide) (by decide) (wy := []) (fun _ _ _ q => ⟨q.1, q.2.1⟩) all0 (fun _ _ => trivial) ?_
          intro v293 T293 h293 lo293 W293 K293 q293
          obtain rfl := q293.2.2
          show Gl _ _ _ _ _ _ _ _ [.null]
          refine o_aload W293 (pc' := 510) (hb hy at_508) rfl rfl rfl ?_
          refine o_acmpN W293 (pc' := 513) (hb hy at_510) rfl rfl (XT.aa_ne_f rfl) rfl ?_
          refine o_iconst W293 (v := 1) (pc' := 514) (hb hy at_513) rfl rfl ?_
          refine o_goto W293 (pc' := 518) (hb hy at_514) (by decide) rfl ?_
          exact o_retN W293 hlk (t := .boolean) hret (by simp) (z' := (1 : Int32)) (by decide) (hb hy at_518) (by decide) (by decide) rfl
        · refine o_icmpN W291 (pc' := 385) (hb hy at_382) (XT.ii_ne_f hq292) rfl ?_
          refine o_aload W291 (pc' := 387) (hb hy at_385) rfl rfl rfl ?_
          refine o_astore W291 (L' := #[.val (.int p0), .val (.int p1), .val (.int p2), .val (.int p3), .val (.int 0), .val (.int 1), .val (.int (p2 &&& (255 : Int32))), .val (.ref b224), .val (.ref b232), .val (.ref b245), .val (.ref b254), .val (.ref b255), .val (.ref b263), .val (.ref b288), .val (.ref gO1), .val (.ref b224), .val (.ref gO1), .val (.int 1), .val (.int 110)]) (pc' := 389) (hb hy at_387) rfl rfl rfl ?_
          refine o_goto W291 (pc' := 395) (hb hy at_389) (by decide) rfl ?_
          refine o_goto W291 (pc' := 503) (hb hy at_395) (by decide) rfl ?_
          refine o_aload W291 (pc' := 505) (hb hy at_503) rfl rfl rfl ?_
          refine o_static W291 (y := (⟨"com/example/sessn/sessn/session/Weights", "labelled", "(Ljava/lang/String;)Lcom/example/sessn/sessn/session/Weights;"⟩ : MethodName)) (w34 hw) (w35 hw) (w2 hw) (w36 hw) (by decide) (argsL := [(.ref b288)]) (CtrN.back (Wd := 0) W291 (rm2 l Z a0 hw gCS gO1 gO2 gO4 gO6 gO8 gO9 gO10 gO11 gO12 gO13 k_gO2 k_gO9 k_gO11 k_gO13 b288 t291 kb291 [(117 : Int32), (p2 &&& (255 : Int32)), (105 : Int32), (102 : Int32), (111 : Int32), (114 : Int32), (109 : Int32)] h291 W291.old SgO2__VALUES VgO2 XgO2 FitgO2 FgO1_label SgCS NgCS XgO8 FgO8_value FgO8_coder VgO9 X291 Fv291 Fc291 B291 ok290 (own_eqY (by simp [hq292])) FgO4_label XgO10 FgO10_value FgO10_coder VgO11 (own_eqN (by simp)) FgO6_label XgO12 FgO12_value FgO12_coder VgO13 (own_eqN (by simp))) (w36 hw) (w2 hw) (by decide) (by decide)) (by rw [hml]; rfl) (lenOf pd3 rfl) (S := []) rfl (by exact Nat.le_of_eq rfl) (pc' := 508) (hb hy at_505) rfl (cells' := 9) (slots' := 59) rfl rfl (by decide) (by decide) (wy := []) (fun _ _ _ q => ⟨q.1, q.2.1⟩) all0 (fun _ _ => trivial) ?_
          intro v294 T294 h294 lo294 W294 K294 q294
          obtain rfl := q294.2.2
          show Gl _ _ _ _ _ _ _ _ [(.ref gO1)]
          refine o_aload W294 (pc' := 510) (hb hy at_508) rfl rfl rfl ?_
          refine o_acmpN W294 (pc' := 513) (hb hy at_510) rfl rfl (XT.aa_ne_f rfl) rfl ?_
          refine o_iconst W294 (v := 1) (pc' := 514) (hb hy at_513) rfl rfl ?_
          refine o_goto W294 (pc' := 518) (hb hy at_514) (by decide) rfl ?_
          exact o_retN W294 hlk (t := .boolean) hret (by simp) (z' := (1 : Int32)) (by decide) (hb hy at_518) (by decide) (by decide) rfl
      · refine o_irem W273 (v := 2) (pc' := 341) (hb hy at_340) (by decide) ek278 rfl ?_
        refine o_istore W273 (L' := #[.val (.int p0), .val (.int p1), .val (.int p2), .val (.int p3), .val (.int 0), .val (.int 1), .val (.int (p2 &&& (255 : Int32))), .val (.ref b224), .val (.ref b232), .val (.ref b245), .val (.ref b254), .val (.ref b255), .val (.ref b263), .unset, .unset, .val (.ref b224), .val (.ref gO1), .val (.int 2), .unset]) (pc' := 343) (hb hy at_341) rfl rfl ?_
        refine o_aload W273 (pc' := 345) (hb hy at_343) rfl rfl rfl ?_
        refine o_iload W273 (pc' := 347) (hb hy at_345) rfl rfl ?_
        refine o_caload W273 c277 (x := (105 : Int32)) (i := 2) (by decide) (by decide) (by decide) rfl (pc' := 348) (hb hy at_347) rfl ?_
        refine o_istore W273 (L' := #[.val (.int p0), .val (.int p1), .val (.int p2), .val (.int p3), .val (.int 0), .val (.int 1), .val (.int (p2 &&& (255 : Int32))), .val (.ref b224), .val (.ref b232), .val (.ref b245), .val (.ref b254), .val (.ref b255), .val (.ref b263), .unset, .unset, .val (.ref b224), .val (.ref gO1), .val (.int 2), .val (.int 105)]) (pc' := 350) (hb hy at_348) rfl rfl ?_
        refine o_iload W273 (pc' := 352) (hb hy at_350) rfl rfl ?_
        refine o_ifN W273 (pc' := 355) (hb hy at_352) (XT.i0_eq_f (by decide)) rfl ?_
        refine o_aload W273 (pc' := 357) (hb hy at_355) rfl rfl rfl ?_
        refine o_iload W273 (pc' := 359) (hb hy at_357) rfl rfl ?_
        refine o_iload W273 (pc' := 361) (hb hy at_359) rfl rfl ?_
        refine o_stC W273 c277 (i := 2) (x' := (p2 &&& (255 : Int32))) (by decide) (by decide) (by decide) (Nat.lt_of_sub_eq_succ rfl) (own_i2c (own_b255 _)) (vs' := [(.int 117), (.int 110), (.int (p2 &&& (255 : Int32))), (.int 102), (.int 111), (.int 114), (.int 109)]) rfl gz224 (Or.inr gb224) (fun _ _ => trivial) (pc' := 362) (hb hy at_361) rfl ?_
        intro T295 h295 lo295 W295 R295 V295
        refine o_new W295 (w5 hw) (w6 hw) (w7 hw) (fun _ _ => trivial) (pc' := 365) (hb hy at_362) rfl (cells' := 7) (slots' := 49) rfl rfl (by decide) (by decide) ?_
        intro b296 T296 h296 W296 E296 ge296 gz296 gb296 A296 D296
        have Fb296_coder : Fld Z h296 b296 "java/lang/String" "coder" "B" (.int 0) := D296 (Or.inr (w31 hw)) (ty := .byte) (by decide)
        have Fb296_value : Fld Z h296 b296 "java/lang/String" "value" "[B" .null := D296 (Or.inr (w33 hw)) (ty := (.array .byte)) (by decide)
        refine o_dup W296 (pc' := 366) (hb hy at_365) rfl rfl ?_
        refine o_aload W296 (pc' := 368) (hb hy at_366) rfl rfl rfl ?_
        have c297 := (V295.ext E296)
        have ok298 : own_ok [(117 : Int32), (110 : Int32), (p2 &&& (255 : Int32)), (102 : Int32), (111 : Int32), (114 : Int32), (109 : Int32)] := ⟨by simp only [List.mem_cons, List.not_mem_nil, or_false, forall_eq_or_imp, forall_eq, false_imp_iff, implies_true]; exact ⟨(by unfold own_b; decide), (by unfold own_b; decide), (own_b255 _), (by unfold own_b; decide), (by unfold own_b; decide), (by unfold own_b; decide), (by unfold own_b; decide)⟩, Nat.le_of_ble_eq_true rfl⟩
        refine o_special W296 (y := (⟨"java/lang/String", "<init>", "([C)V"⟩ : MethodName)) rfl (w8 hw) (w9 hw) (w10 hw) (by decide) (a := b296) (argsL := [(.ref b224)]) (StrChars.Road.backV (W := 1) W296.2.2.2.1 (own_hV hw) (kI := 4) (w6 hw) (cs := [(117 : Int32), (110 : Int32), (p2 &&& (255 : Int32)), (102 : Int32), (111 : Int32), (114 : Int32), (109 : Int32)]) (bs := [((117 : Int32)).toInt8.toInt32, ((110 : Int32)).toInt8.toInt32, ((p2 &&& (255 : Int32))).toInt8.toInt32, ((102 : Int32)).toInt8.toInt32, ((111 : Int32)).toInt8.toInt32, ((114 : Int32)).toInt8.toInt32, ((109 : Int32)).toInt8.toInt32]) (n := 7) (n0 := Z.heap.size) gz296 W296.zs A296 Fb296_value Fb296_coder c297 (SgCS.ext W296.ox) NgCS rfl rfl (by decide) (by decide) ok298.1 rfl (by decide) (by decide)) (by rw [hml]; rfl) (lenOf pd0 rfl) (S := [(.ref b296)]) rfl (by exact Nat.le_of_eq rfl) (pc' := 371) (hb hy at_368) rfl (cells' := 8) (slots' := 56) rfl rfl (by decide) (by decide) (wy := [b296]) (fun _ _ _ q => ⟨q.2.1, q.2.2.1⟩) (allS ⟨gz296, (Or.inr gb296)⟩ all0) (fun _ _ => trivial) ?_
        intro v299 T299 h299 lo299 W299 K299 q299
        obtain ⟨rfl, -, -, X299, Fc299, t299, kb299, gz299, ge299, -, Fv299, A299⟩ := q299
        have B299 : Arv Z h299 t299 kb299 .byte (7 : Int32) [(.int (StrChars.lo8 (117 : Int32))), (.int (StrChars.lo8 (110 : Int32))), (.int (StrChars.lo8 (p2 &&& (255 : Int32)))), (.int (StrChars.lo8 (102 : Int32))), (.int (StrChars.lo8 (111 : Int32))), (.int (StrChars.lo8 (114 : Int32))), (.int (StrChars.lo8 (109 : Int32)))] (.int 0) := A299
        show Gl _ _ _ _ _ _ _ _ [(.ref b296)]
        refine o_astore W299 (L' := #[.val (.int p0), .val (.int p1), .val (.int p2), .val (.int p3), .val (.int 0), .val (.int 1), .val (.int (p2 &&& (255 : Int32))), .val (.ref b224), .val (.ref b232), .val (.ref b245), .val (.ref b254), .val (.ref b255), .val (.ref b263), .val (.ref b296), .unset, .val (.ref b224), .val (.ref gO1), .val (.int 2), .val (.int 105)]) (pc' := 373) (hb hy at_371) rfl rfl rfl ?_
        refine o_iload W299 (pc' := 375) (hb hy at_373) rfl rfl ?_
        refine o_ifN W299 (pc' := 378) (hb hy at_375) (XT.i0_eq_f (by decide)) rfl ?_
        refine o_iload W299 (pc' := 380) (hb hy at_378) rfl rfl ?_
        refine o_iload W299 (pc' := 382) (hb hy at_380) rfl rfl ?_
        rcases (Classical.em ((p2 &&& (255 : Int32)) = (105 : Int32))).symm with hq300 | hq300
        · refine o_icmpY W299 (pc' := 392) (hb hy at_382) (XT.ii_ne_t hq300) (by decide) rfl ?_
          refine o_aconstNull W299 (pc' := 393) (hb hy at_392) rfl ?_
          refine o_astore W299 (L' := #[.val (.int p0), .val (.int p1), .val (.int p2), .val (.int p3), .val (.int 0), .val (.int 1), .val (.int (p2 &&& (255 : Int32))), .val (.ref b224), .val (.ref b232), .val (.ref b245), .val (.ref b254), .val (.ref b255), .val (.ref b263), .val (.ref b296), .val .null, .val (.ref b224), .val (.ref gO1), .val (.int 2), .val (.int 105)]) (pc' := 395) (hb hy at_393) rfl rfl rfl ?_
          refine o_goto W299 (pc' := 503) (hb hy at_395) (by decide) rfl ?_
          refine o_aload W299 (pc' := 505) (hb hy at_503) rfl rfl rfl ?_
          refine o_static W299 (y := (⟨"com/example/sessn/sessn/session/Weights", "labelled", "(Ljava/lang/String;)Lcom/example/sessn/sessn/session/Weights;"⟩ : MethodName)) (w34 hw) (w35 hw) (w2 hw) (w36 hw) (by decide) (argsL := [(.ref b296)]) (CtrN.back (Wd := 0) W299 (rm9 l Z a0 hw gCS gO1 gO2 gO4 gO6 gO8 gO9 gO10 gO11 gO12 gO13 k_gO2 k_gO9 k_gO11 k_gO13 b296 t299 kb299 [(117 : Int32), (110 : Int32), (p2 &&& (255 : Int32)), (102 : Int32), (111 : Int32), (114 : Int32), (109 : Int32)] h299 W299.old SgO2__VALUES VgO2 XgO2 FitgO2 FgO1_label SgCS NgCS XgO8 FgO8_value FgO8_coder VgO9 X299 Fv299 Fc299 B299 ok298 (own_eqN (by simp [hq300, Ne.symm hq300])) FgO4_label XgO10 FgO10_value FgO10_coder VgO11 (own_eqN (by simp)) FgO6_label XgO12 FgO12_value FgO12_coder VgO13 (own_eqN (by simp))) (w36 hw) (w2 hw) (by decide) (by decide)) (by rw [hml]; rfl) (lenOf pd3 rfl) (S := []) rfl (by exact Nat.le_of_eq rfl) (pc' := 508) (hb hy at_505) rfl (cells' := 9) (slots' := 59) rfl rfl (by decide) (by decide) (wy := []) (fun _ _ _ q => ⟨q.1, q.2.1⟩) all0 (fun _ _ => trivial) ?_
          intro v301 T301 h301 lo301 W301 K301 q301
          obtain rfl := q301.2.2
          show Gl _ _ _ _ _ _ _ _ [.null]
          refine o_aload W301 (pc' := 510) (hb hy at_508) rfl rfl rfl ?_
          refine o_acmpN W301 (pc' := 513) (hb hy at_510) rfl rfl (XT.aa_ne_f rfl) rfl ?_
          refine o_iconst W301 (v := 1) (pc' := 514) (hb hy at_513) rfl rfl ?_
          refine o_goto W301 (pc' := 518) (hb hy at_514) (by decide) rfl ?_
          exact o_retN W301 hlk (t := .boolean) hret (by simp) (z' := (1 : Int32)) (by decide) (hb hy at_518) (by decide) (by decide) rfl
        · refine o_icmpN W299 (pc' := 385) (hb hy at_382) (XT.ii_ne_f hq300) rfl ?_
          refine o_aload W299 (pc' := 387) (hb hy at_385) rfl rfl rfl ?_
          refine o_astore W299 (L' := #[.val (.int p0), .val (.int p1), .val (.int p2), .val (.int p3), .val (.int 0), .val (.int 1), .val (.int (p2 &&& (255 : Int32))), .val (.ref b224), .val (.ref b232), .val (.ref b245), .val (.ref b254), .val (.ref b255), .val (.ref b263), .val (.ref b296), .val (.ref gO1), .val (.ref b224), .val (.ref gO1), .val (.int 2), .val (.int 105)]) (pc' := 389) (hb hy at_387) rfl rfl rfl ?_
          refine o_goto W299 (pc' := 395) (hb hy at_389) (by decide) rfl ?_
          refine o_goto W299 (pc' := 503) (hb hy at_395) (by decide) rfl ?_
          refine o_aload W299 (pc' := 505) (hb hy at_503) rfl rfl rfl ?_
          refine o_static W299 (y := (⟨"com/example/sessn/sessn/session/Weights", "labelled", "(Ljava/lang/String;)Lcom/example/sessn/sessn/session/Weights;"⟩ : MethodName)) (w34 hw) (w35 hw) (w2 hw) (w36 hw) (by decide) (argsL := [(.ref b296)]) (CtrN.back (Wd := 0) W299 (rm2 l Z a0 hw gCS gO1 gO2 gO4 gO6 gO8 gO9 gO10 gO11 gO12 gO13 k_gO2 k_gO9 k_gO11 k_gO13 b296 t299 kb299 [(117 : Int32), (110 : Int32), (p2 &&& (255 : Int32)), (102 : Int32), (111 : Int32), (114 : Int32), (109 : Int32)] h299 W299.old SgO2__VALUES VgO2 XgO2 FitgO2 FgO1_label SgCS NgCS XgO8 FgO8_value FgO8_coder VgO9 X299 Fv299 Fc299 B299 ok298 (own_eqY (by simp [hq300])) FgO4_label XgO10 FgO10_value FgO10_coder VgO11 (own_eqN (by simp)) FgO6_label XgO12 FgO12_value FgO12_coder VgO13 (own_eqN (by simp))) (w36 hw) (w2 hw) (by decide) (by decide)) (by rw [hml]; rfl) (lenOf pd3 rfl) (S := []) rfl (by exact Nat.le_of_eq rfl) (pc' := 508) (hb hy at_505) rfl (cells' := 9) (slots' := 59) rfl rfl (by decide) (by decide) (wy := []) (fun _ _ _ q => ⟨q.1, q.2.1⟩) all0 (fun _ _ => trivial) ?_
          intro v302 T302 h302 lo302 W302 K302 q302
          obtain rfl := q302.2.2
          show Gl _ _ _ _ _ _ _ _ [(.ref gO1)]
          refine o_aload W302 (pc' := 510) (hb hy at_508) rfl rfl rfl ?_
          refine o_acmpN W302 (pc' := 513) (hb hy at_510) rfl rfl (XT.aa_ne_f rfl) rfl ?_
          refine o_iconst W302 (v := 1) (pc' := 514) (hb hy at_513) rfl rfl ?_
          refine o_goto W302 (pc' := 518) (hb hy at_514) (by decide) rfl ?_
          exact o_retN W302 hlk (t := .boolean) hret (by simp) (z' := (1 : Int32)) (by decide) (hb hy at_518) (by decide) (by decide) rfl
      · refine o_irem W273 (v := 3) (pc' := 341) (hb hy at_340) (by decide) ek278 rfl ?_
        refine o_istore W273 (L' := #[.val (.int p0), .val (.int p1), .val (.int p2), .val (.int p3), .val (.int 0), .val (.int 1), .val (.int (p2 &&& (255 : Int32))), .val (.ref b224), .val (.ref b232), .val (.ref b245), .val (.ref b254), .val (.ref b255), .val (.ref b263), .unset, .unset, .val (.ref b224), .val (.ref gO1), .val (.int 3), .unset]) (pc' := 343) (hb hy at_341) rfl rfl ?_
        refine o_aload W273 (pc' := 345) (hb hy at_343) rfl rfl rfl ?_
        refine o_iload W273 (pc' := 347) (hb hy at_345) rfl rfl ?_
        refine o_caload W273 c277 (x := (102 : Int32)) (i := 3) (by decide) (by decide) (by decide) rfl (pc' := 348) (hb hy at_347) rfl ?_
        refine o_istore W273 (L' := #[.val (.int p0), .val (.int p1), .val (.int p2), .val (.int p3), .val (.int 0), .val (.int 1), .val (.int (p2 &&& (255 : Int32))), .val (.ref b224), .val (.ref b232), .val (.ref b245), .val (.ref b254), .val (.ref b255), .val (.ref b263), .unset, .unset, .val (.ref b224), .val (.ref gO1), .val (.int 3), .val (.int 102)]) (pc' := 350) (hb hy at_348) rfl rfl ?_
        refine o_iload W273 (pc' := 352) (hb hy at_350) rfl rfl ?_
        refine o_ifN W273 (pc' := 355) (hb hy at_352) (XT.i0_eq_f (by decide)) rfl ?_
        refine o_aload W273 (pc' := 357) (hb hy at_355) rfl rfl rfl ?_
        refine o_iload W273 (pc' := 359) (hb hy at_357) rfl rfl ?_
        refine o_iload W273 (pc' := 361) (hb hy at_359) rfl rfl ?_
        refine o_stC W273 c277 (i := 3) (x' := (p2 &&& (255 : Int32))) (by decide) (by decide) (by decide) (Nat.lt_of_sub_eq_succ rfl) (own_i2c (own_b255 _)) (vs' := [(.int 117), (.int 110), (.int 105), (.int (p2 &&& (255 : Int32))), (.int 111), (.int 114), (.int 109)]) rfl gz224 (Or.inr gb224) (fun _ _ => trivial) (pc' := 362) (hb hy at_361) rfl ?_
        intro T303 h303 lo303 W303 R303 V303
        refine o_new W303 (w5 hw) (w6 hw) (w7 hw) (fun _ _ => trivial) (pc' := 365) (hb hy at_362) rfl (cells' := 7) (slots' := 49) rfl rfl (by decide) (by decide) ?_
        intro b304 T304 h304 W304 E304 ge304 gz304 gb304 A304 D304
        have Fb304_coder : Fld Z h304 b304 "java/lang/String" "coder" "B" (.int 0) := D304 (Or.inr (w31 hw)) (ty := .byte) (by decide)
        have Fb304_value : Fld Z h304 b304 "java/lang/String" "value" "[B" .null := D304 (Or.inr (w33 hw)) (ty := (.array .byte)) (by decide)
        refine o_dup W304 (pc' := 366) (hb hy at_365) rfl rfl ?_
        refine o_aload W304 (pc' := 368) (hb hy at_366) rfl rfl rfl ?_
        have c305 := (V303.ext E304)
        have ok306 : own_ok [(117 : Int32), (110 : Int32), (105 : Int32), (p2 &&& (255 : Int32)), (111 : Int32), (114 : Int32), (109 : Int32)] := ⟨by simp only [List.mem_cons, List.not_mem_nil, or_false, forall_eq_or_imp, forall_eq, false_imp_iff, implies_true]; exact ⟨(by unfold own_b; decide), (by unfold own_b; decide), (by unfold own_b; decide), (own_b255 _), (by unfold own_b; decide), (by unfold own_b; decide), (by unfold own_b; decide)⟩, Nat.le_of_ble_eq_true rfl⟩
        refine o_special W304 (y := (⟨"java/lang/String", "<init>", "([C)V"⟩ : MethodName)) rfl (w8 hw) (w9 hw) (w10 hw) (by decide) (a := b304) (argsL := [(.ref b224)]) (StrChars.Road.backV (W := 1) W304.2.2.2.1 (own_hV hw) (kI := 4) (w6 hw) (cs := [(117 : Int32), (110 : Int32), (105 : Int32), (p2 &&& (255 : Int32)), (111 : Int32), (114 : Int32), (109 : Int32)]) (bs := [((117 : Int32)).toInt8.toInt32, ((110 : Int32)).toInt8.toInt32, ((105 : Int32)).toInt8.toInt32, ((p2 &&& (255 : Int32))).toInt8.toInt32, ((111 : Int32)).toInt8.toInt32, ((114 : Int32)).toInt8.toInt32, ((109 : Int32)).toInt8.toInt32]) (n := 7) (n0 := Z.heap.size) gz304 W304.zs A304 Fb304_value Fb304_coder c305 (SgCS.ext W304.ox) NgCS rfl rfl (by decide) (by decide) ok306.1 rfl (by decide) (by decide)) (by rw [hml]; rfl) (lenOf pd0 rfl) (S := [(.ref b304)]) rfl (by exact Nat.le_of_eq rfl) (pc' := 371) (hb hy at_368) rfl (cells' := 8) (slots' := 56) rfl rfl (by decide) (by decide) (wy := [b304]) (fun _ _ _ q => ⟨q.2.1, q.2.2.1⟩) (allS ⟨gz304, (Or.inr gb304)⟩ all0) (fun _ _ => trivial) ?_
        intro v307 T307 h307 lo307 W307 K307 q307
        obtain ⟨rfl, -, -, X307, Fc307, t307, kb307, gz307, ge307, -, Fv307, A307⟩ := q307
        have B307 : Arv Z h307 t307 kb307 .byte (7 : Int32) [(.int (StrChars.lo8 (117 : Int32))), (.int (StrChars.lo8 (110 : Int32))), (.int (StrChars.lo8 (105 : Int32))), (.int (StrChars.lo8 (p2 &&& (255 : Int32)))), (.int (StrChars.lo8 (111 : Int32))), (.int (StrChars.lo8 (114 : Int32))), (.int (StrChars.lo8 (109 : Int32)))] (.int 0) := A307
        show Gl _ _ _ _ _ _ _ _ [(.ref b304)]
        refine o_astore W307 (L' := #[.val (.int p0), .val (.int p1), .val (.int p2), .val (.int p3), .val (.int 0), .val (.int 1), .val (.int (p2 &&& (255 : Int32))), .val (.ref b224), .val (.ref b232), .val (.ref b245), .val (.ref b254), .val (.ref b255), .val (.ref b263), .val (.ref b304), .unset, .val (.ref b224), .val (.ref gO1), .val (.int 3), .val (.int 102)]) (pc' := 373) (hb hy at_371) rfl rfl rfl ?_
        refine o_iload W307 (pc' := 375) (hb hy at_373) rfl rfl ?_
        refine o_ifN W307 (pc' := 378) (hb hy at_375) (XT.i0_eq_f (by decide)) rfl ?_
        refine o_iload W307 (pc' := 380) (hb hy at_378) rfl rfl ?_
        refine o_iload W307 (pc' := 382) (hb hy at_380) rfl rfl ?_
        rcases (Classical.em ((p2 &&& (255 : Int32)) = (102 : Int32))).symm with hq308 | hq308
        · refine o_icmpY W307 (pc' := 392) (hb hy at_382) (XT.ii_ne_t hq308) (by decide) rfl ?_
          refine o_aconstNull W307 (pc' := 393) (hb hy at_392) rfl ?_
          refine o_astore W307 (L' := #[.val (.int p0), .val (.int p1), .val (.int p2), .val (.int p3), .val (.int 0), .val (.int 1), .val (.int (p2 &&& (255 : Int32))), .val (.ref b224), .val (.ref b232), .val (.ref b245), .val (.ref b254), .val (.ref b255), .val (.ref b263), .val (.ref b304), .val .null, .val (.ref b224), .val (.ref gO1), .val (.int 3), .val (.int 102)]) (pc' := 395) (hb hy at_393) rfl rfl rfl ?_
          refine o_goto W307 (pc' := 503) (hb hy at_395) (by decide) rfl ?_
          refine o_aload W307 (pc' := 505) (hb hy at_503) rfl rfl rfl ?_
          refine o_static W307 (y := (⟨"com/example/sessn/sessn/session/Weights", "labelled", "(Ljava/lang/String;)Lcom/example/sessn/sessn/session/Weights;"⟩ : MethodName)) (w34 hw) (w35 hw) (w2 hw) (w36 hw) (by decide) (argsL := [(.ref b304)]) (CtrN.back (Wd := 0) W307 (rm9 l Z a0 hw gCS gO1 gO2 gO4 gO6 gO8 gO9 gO10 gO11 gO12 gO13 k_gO2 k_gO9 k_gO11 k_gO13 b304 t307 kb307 [(117 : Int32), (110 : Int32), (105 : Int32), (p2 &&& (255 : Int32)), (111 : Int32), (114 : Int32), (109 : Int32)] h307 W307.old SgO2__VALUES VgO2 XgO2 FitgO2 FgO1_label SgCS NgCS XgO8 FgO8_value FgO8_coder VgO9 X307 Fv307 Fc307 B307 ok306 (own_eqN (by simp [hq308, Ne.symm hq308])) FgO4_label XgO10 FgO10_value FgO10_coder VgO11 (own_eqN (by simp)) FgO6_label XgO12 FgO12_value FgO12_coder VgO13 (own_eqN (by simp))) (w36 hw) (w2 hw) (by decide) (by decide)) (by rw [hml]; rfl) (lenOf pd3 rfl) (S := []) rfl (by exact Nat.le_of_eq rfl) (pc' := 508) (hb hy at_505) rfl (cells' := 9) (slots' := 59) rfl rfl (by decide) (by decide) (wy := []) (fun _ _ _ q => ⟨q.1, q.2.1⟩) all0 (fun _ _ => trivial) ?_
          intro v309 T309 h309 lo309 W309 K309 q309
          obtain rfl := q309.2.2
          show Gl _ _ _ _ _ _ _ _ [.null]
          refine o_aload W309 (pc' := 510) (hb hy at_508) rfl rfl rfl ?_
          refine o_acmpN W309 (pc' := 513) (hb hy at_510) rfl rfl (XT.aa_ne_f rfl) rfl ?_
          refine o_iconst W309 (v := 1) (pc' := 514) (hb hy at_513) rfl rfl ?_
          refine o_goto W309 (pc' := 518) (hb hy at_514) (by decide) rfl ?_
          exact o_retN W309 hlk (t := .boolean) hret (by simp) (z' := (1 : Int32)) (by decide) (hb hy at_518) (by decide) (by decide) rfl
        · refine o_icmpN W307 (pc' := 385) (hb hy at_382) (XT.ii_ne_f hq308) rfl ?_
          refine o_aload W307 (pc' := 387) (hb hy at_385) rfl rfl rfl ?_
          refine o_astore W307 (L' := #[.val (.int p0), .val (.int p1), .val (.int p2), .val (.int p3), .val (.int 0), .val (.int 1), .val (.int (p2 &&& (255 : Int32))), .val (.ref b224), .val (.ref b232), .val (.ref b245), .val (.ref b254), .val (.ref b255), .val (.ref b263), .val (.ref b304), .val (.ref gO1), .val (.ref b224), .val (.ref gO1), .val (.int 3), .val (.int 102)]) (pc' := 389) (hb hy at_387) rfl rfl rfl ?_
          refine o_goto W307 (pc' := 395) (hb hy at_389) (by decide) rfl ?_
          refine o_goto W307 (pc' := 503) (hb hy at_395) (by decide) rfl ?_
          refine o_aload W307 (pc' := 505) (hb hy at_503) rfl rfl rfl ?_
          refine o_static W307 (y := (⟨"com/example/sessn/sessn/session/Weights", "labelled", "(Ljava/lang/String;)Lcom/example/sessn/sessn/session/Weights;"⟩ : MethodName)) (w34 hw) (w35 hw) (w2 hw) (w36 hw) (by decide) (argsL := [(.ref b304)]) (CtrN.back (Wd := 0) W307 (rm2 l Z a0 hw gCS gO1 gO2 gO4 gO6 gO8 gO9 gO10 gO11 gO12 gO13 k_gO2 k_gO9 k_gO11 k_gO13 b304 t307 kb307 [(117 : Int32), (110 : Int32), (105 : Int32), (p2 &&& (255 : Int32)), (111 : Int32), (114 : Int32), (109 : Int32)] h307 W307.old SgO2__VALUES VgO2 XgO2 FitgO2 FgO1_label SgCS NgCS XgO8 FgO8_value FgO8_coder VgO9 X307 Fv307 Fc307 B307 ok306 (own_eqY (by simp [hq308])) FgO4_label XgO10 FgO10_value FgO10_coder VgO11 (own_eqN (by simp)) FgO6_label XgO12 FgO12_value FgO12_coder VgO13 (own_eqN (by simp))) (w36 hw) (w2 hw) (by decide) (by decide)) (by rw [hml]; rfl) (lenOf pd3 rfl) (S := []) rfl (by exact Nat.le_of_eq rfl) (pc' := 508) (hb hy at_505) rfl (cells' := 9) (slots' := 59) rfl rfl (by decide) (by decide) (wy := []) (fun _ _ _ q => ⟨q.1, q.2.1⟩) all0 (fun _ _ => trivial) ?_
          intro v310 T310 h310 lo310 W310 K310 q310
          obtain rfl := q310.2.2
          show Gl _ _ _ _ _ _ _ _ [(.ref gO1)]
          refine o_aload W310 (pc' := 510) (hb hy at_508) rfl rfl rfl ?_
          refine o_acmpN W310 (pc' := 513) (hb hy at_510) rfl rfl (XT.aa_ne_f rfl) rfl ?_
          refine o_iconst W310 (v := 1) (pc' := 514) (hb hy at_513) rfl rfl ?_
          refine o_goto W310 (pc' := 518) (hb hy at_514) (by decide) rfl ?_
          exact o_retN W310 hlk (t := .boolean) hret (by simp) (z' := (1 : Int32)) (by decide) (hb hy at_518) (by decide) (by decide) rfl
      · refine o_irem W273 (v := 4) (pc' := 341) (hb hy at_340) (by decide) ek278 rfl ?_
        refine o_istore W273 (L' := #[.val (.int p0), .val (.int p1), .val (.int p2), .val (.int p3), .val (.int 0), .val (.int 1), .val (.int (p2 &&& (255 : Int32))), .val (.ref b224), .val (.ref b232), .val (.ref b245), .val (.ref b254), .val (.ref b255), .val (.ref b263), .unset, .unset, .val (.ref b224), .val (.ref gO1), .val (.int 4), .unset]) (pc' := 343) (hb hy at_341) rfl rfl ?_
        refine o_aload W273 (pc' := 345) (hb hy at_343) rfl rfl rfl ?_
        refine o_iload W273 (pc' := 347) (hb hy at_345) rfl rfl ?_
        refine o_caload W273 c277 (x := (111 : Int32)) (i := 4) (by decide) (by decide) (by decide) rfl (pc' := 348) (hb hy at_347) rfl ?_
        refine o_istore W273 (L' := #[.val (.int p0), .val (.int p1), .val (.int p2), .val (.int p3), .val (.int 0), .val (.int 1), .val (.int (p2 &&& (255 : Int32))), .val (.ref b224), .val (.ref b232), .val (.ref b245), .val (.ref b254), .val (.ref b255), .val (.ref b263), .unset, .unset, .val (.ref b224), .val (.ref gO1), .val (.int 4), .val (.int 111)]) (pc' := 350) (hb hy at_348) rfl rfl ?_
        refine o_iload W273 (pc' := 352) (hb hy at_350) rfl rfl ?_
        refine o_ifN W273 (pc' := 355) (hb hy at_352) (XT.i0_eq_f (by decide)) rfl ?_
        refine o_aload W273 (pc' := 357) (hb hy at_355) rfl rfl rfl ?_
        refine o_iload W273 (pc' := 359) (hb hy at_357) rfl rfl ?_
        refine o_iload W273 (pc' := 361) (hb hy at_359) rfl rfl ?_
        refine o_stC W273 c277 (i := 4) (x' := (p2 &&& (255 : Int32))) (by decide) (by decide) (by decide) (Nat.lt_of_sub_eq_succ rfl) (own_i2c (own_b255 _)) (vs' := [(.int 117), (.int 110), (.int 105), (.int 102), (.int (p2 &&& (255 : Int32))), (.int 114), (.int 109)]) rfl gz224 (Or.inr gb224) (fun _ _ => trivial) (pc' := 362) (hb hy at_361) rfl ?_
        intro T311 h311 lo311 W311 R311 V311
        refine o_new W311 (w5 hw) (w6 hw) (w7 hw) (fun _ _ => trivial) (pc' := 365) (hb hy at_362) rfl (cells' := 7) (slots' := 49) rfl rfl (by decide) (by decide) ?_
        intro b312 T312 h312 W312 E312 ge312 gz312 gb312 A312 D312
        have Fb312_coder : Fld Z h312 b312 "java/lang/String" "coder" "B" (.int 0) := D312 (Or.inr (w31 hw)) (ty := .byte) (by decide)
        have Fb312_value : Fld Z h312 b312 "java/lang/String" "value" "[B" .null := D312 (Or.inr (w33 hw)) (ty := (.array .byte)) (by decide)
        refine o_dup W312 (pc' := 366) (hb hy at_365) rfl rfl ?_
        refine o_aload W312 (pc' := 368) (hb hy at_366) rfl rfl rfl ?_
        have c313 := (V311.ext E312)
        have ok314 : own_ok [(117 : Int32), (110 : Int32), (105 : Int32), (102 : Int32), (p2 &&& (255 : Int32)), (114 : Int32), (109 : Int32)] := ⟨by simp only [List.mem_cons, List.not_mem_nil, or_false, forall_eq_or_imp, forall_eq, false_imp_iff, implies_true]; exact ⟨(by unfold own_b; decide), (by unfold own_b; decide), (by unfold own_b; decide), (by unfold own_b; decide), (own_b255 _), (by unfold own_b; decide), (by unfold own_b; decide)⟩, Nat.le_of_ble_eq_true rfl⟩
        refine o_special W312 (y := (⟨"java/lang/String", "<init>", "([C)V"⟩ : MethodName)) rfl (w8 hw) (w9 hw) (w10 hw) (by decide) (a := b312) (argsL := [(.ref b224)]) (StrChars.Road.backV (W := 1) W312.2.2.2.1 (own_hV hw) (kI := 4) (w6 hw) (cs := [(117 : Int32), (110 : Int32), (105 : Int32), (102 : Int32), (p2 &&& (255 : Int32)), (114 : Int32), (109 : Int32)]) (bs := [((117 : Int32)).toInt8.toInt32, ((110 : Int32)).toInt8.toInt32, ((105 : Int32)).toInt8.toInt32, ((102 : Int32)).toInt8.toInt32, ((p2 &&& (255 : Int32))).toInt8.toInt32, ((114 : Int32)).toInt8.toInt32, ((109 : Int32)).toInt8.toInt32]) (n := 7) (n0 := Z.heap.size) gz312 W312.zs A312 Fb312_value Fb312_coder c313 (SgCS.ext W312.ox) NgCS rfl rfl (by decide) (by decide) ok314.1 rfl (by decide) (by decide)) (by rw [hml]; rfl) (lenOf pd0 rfl) (S := [(.ref b312)]) rfl (by exact Nat.le_of_eq rfl) (pc' := 371) (hb hy at_368) rfl (cells' := 8) (slots' := 56) rfl rfl (by decide) (by decide) (wy := [b312]) (fun _ _ _ q => ⟨q.2.1, q.2.2.1⟩) (allS ⟨gz312, (Or.inr gb312)⟩ all0) (fun _ _ => trivial) ?_
        intro v315 T315 h315 lo315 W315 K315 q315
        obtain ⟨rfl, -, -, X315, Fc315, t315, kb315, gz315, ge315, -, Fv315, A315⟩ := q315
        have B315 : Arv Z h315 t315 kb315 .byte (7 : Int32) [(.int (StrChars.lo8 (117 : Int32))), (.int (StrChars.lo8 (110 : Int32))), (.int (StrChars.lo8 (105 : Int32))), (.int (StrChars.lo8 (102 : Int32))), (.int (StrChars.lo8 (p2 &&& (255 : Int32)))), (.int (StrChars.lo8 (114 : Int32))), (.int (StrChars.lo8 (109 : Int32)))] (.int 0) := A315
        show Gl _ _ _ _ _ _ _ _ [(.ref b312)]
        refine o_astore W315 (L' := #[.val (.int p0), .val (.int p1), .val (.int p2), .val (.int p3), .val (.int 0), .val (.int 1), .val (.int (p2 &&& (255 : Int32))), .val (.ref b224), .val (.ref b232), .val (.ref b245), .val (.ref b254), .val (.ref b255), .val (.ref b263), .val (.ref b312), .unset, .val (.ref b224), .val (.ref gO1), .val (.int 4), .val (.int 111)]) (pc' := 373) (hb hy at_371) rfl rfl rfl ?_
        refine o_iload W315 (pc' := 375) (hb hy at_373) rfl rfl ?_
        refine o_ifN W315 (pc' := 378) (hb hy at_375) (XT.i0_eq_f (by decide)) rfl ?_
        refine o_iload W315 (pc' := 380) (hb hy at_378) rfl rfl ?_
        refine o_iload W315 (pc' := 382) (hb hy at_380) rfl rfl ?_
        rcases (Classical.em ((p2 &&& (255 : Int32)) = (111 : Int32))).symm with hq316 | hq316
        · refine o_icmpY W315 (pc' := 392) (hb hy at_382) (XT.ii_ne_t hq316) (by decide) rfl ?_
          refine o_aconstNull W315 (pc' := 393) (hb hy at_392) rfl ?_
          refine o_astore W315 (L' := #[.val (.int p0), .val (.int p1), .val (.int p2), .val (.int p3), .val (.int 0), .val (.int 1), .val (.int (p2 &&& (255 : Int32))), .val (.ref b224), .val (.ref b232), .val (.ref b245), .val (.ref b254), .val (.ref b255), .val (.ref b263), .val (.ref b312), .val .null, .val (.ref b224), .val (.ref gO1), .val (.int 4), .val (.int 111)]) (pc' := 395) (hb hy at_393) rfl rfl rfl ?_
          refine o_goto W315 (pc' := 503) (hb hy at_395) (by decide) rfl ?_
          refine o_aload W315 (pc' := 505) (hb hy at_503) rfl rfl rfl ?_
          refine o_static W315 (y := (⟨"com/example/sessn/sessn/session/Weights", "labelled", "(Ljava/lang/String;)Lcom/example/sessn/sessn/session/Weights;"⟩ : MethodName)) (w34 hw) (w35 hw) (w2 hw) (w36 hw) (by decide) (argsL := [(.ref b312)]) (CtrN.back (Wd := 0) W315 (rm9 l Z a0 hw gCS gO1 gO2 gO4 gO6 gO8 gO9 gO10 gO11 gO12 gO13 k_gO2 k_gO9 k_gO11 k_gO13 b312 t315 kb315 [(117 : Int32), (110 : Int32), (105 : Int32), (102 : Int32), (p2 &&& (255 : Int32)), (114 : Int32), (109 : Int32)] h315 W315.old SgO2__VALUES VgO2 XgO2 FitgO2 FgO1_label SgCS NgCS XgO8 FgO8_value FgO8_coder VgO9 X315 Fv315 Fc315 B315 ok314 (own_eqN (by simp [hq316, Ne.symm hq316])) FgO4_label XgO10 FgO10_value FgO10_coder VgO11 (own_eqN (by simp)) FgO6_label XgO12 FgO12_value FgO12_coder VgO13 (own_eqN (by simp))) (w36 hw) (w2 hw) (by decide) (by decide)) (by rw [hml]; rfl) (lenOf pd3 rfl) (S := []) rfl (by exact Nat.le_of_eq rfl) (pc' := 508) (hb hy at_505) rfl (cells' := 9) (slots' := 59) rfl rfl (by decide) (by decide) (wy := []) (fun _ _ _ q => ⟨q.1, q.2.1⟩) all0 (fun _ _ => trivial) ?_
          intro v317 T317 h317 lo317 W317 K317 q317
          obtain rfl := q317.2.2
          show Gl _ _ _ _ _ _ _ _ [.null]
          refine o_aload W317 (pc' := 510) (hb hy at_508) rfl rfl rfl ?_
          refine o_acmpN W317 (pc' := 513) (hb hy at_510) rfl rfl (XT.aa_ne_f rfl) rfl ?_
          refine o_iconst W317 (v := 1) (pc' := 514) (hb hy at_513) rfl rfl ?_
          refine o_goto W317 (pc' := 518) (hb hy at_514) (by decide) rfl ?_
          exact o_retN W317 hlk (t := .boolean) hret (by simp) (z' := (1 : Int32)) (by decide) (hb hy at_518) (by decide) (by decide) rfl
        · refine o_icmpN W315 (pc' := 385) (hb hy at_382) (XT.ii_ne_f hq316) rfl ?_
          refine o_aload W315 (pc' := 387) (hb hy at_385) rfl rfl rfl ?_
          refine o_astore W315 (L' := #[.val (.int p0), .val (.int p1), .val (.int p2), .val (.int p3), .val (.int 0), .val (.int 1), .val (.int (p2 &&& (255 : Int32))), .val (.ref b224), .val (.ref b232), .val (.ref b245), .val (.ref b254), .val (.ref b255), .val (.ref b263), .val (.ref b312), .val (.ref gO1), .val (.ref b224), .val (.ref gO1), .val (.int 4), .val (.int 111)]) (pc' := 389) (hb hy at_387) rfl rfl rfl ?_
          refine o_goto W315 (pc' := 395) (hb hy at_389) (by decide) rfl ?_
          refine o_goto W315 (pc' := 503) (hb hy at_395) (by decide) rfl ?_
          refine o_aload W315 (pc' := 505) (hb hy at_503) rfl rfl rfl ?_
          refine o_static W315 (y := (⟨"com/example/sessn/sessn/session/Weights", "labelled", "(Ljava/lang/String;)Lcom/example/sessn/sessn/session/Weights;"⟩ : MethodName)) (w34 hw) (w35 hw) (w2 hw) (w36 hw) (by decide) (argsL := [(.ref b312)]) (CtrN.back (Wd := 0) W315 (rm2 l Z a0 hw gCS gO1 gO2 gO4 gO6 gO8 gO9 gO10 gO11 gO12 gO13 k_gO2 k_gO9 k_gO11 k_gO13 b312 t315 kb315 [(117 : Int32), (110 : Int32), (105 : Int32), (102 : Int32), (p2 &&& (255 : Int32)), (114 : Int32), (109 : Int32)] h315 W315.old SgO2__VALUES VgO2 XgO2 FitgO2 FgO1_label SgCS NgCS XgO8 FgO8_value FgO8_coder VgO9 X315 Fv315 Fc315 B315 ok314 (own_eqY (by simp [hq316])) FgO4_label XgO10 FgO10_value FgO10_coder VgO11 (own_eqN (by simp)) FgO6_label XgO12 FgO12_value FgO12_coder VgO13 (own_eqN (by simp))) (w36 hw) (w2 hw) (by decide) (by decide)) (by rw [hml]; rfl) (lenOf pd3 rfl) (S := []) rfl (by exact Nat.le_of_eq rfl) (pc' := 508) (hb hy at_505) rfl (cells' := 9) (slots' := 59) rfl rfl (by decide) (by decide) (wy := []) (fun _ _ _ q => ⟨q.1, q.2.1⟩) all0 (fun _ _ => trivial) ?_
          intro v318 T318 h318 lo318 W318 K318 q318
          obtain rfl := q318.2.2
          show Gl _ _ _ _ _ _ _ _ [(.ref gO1)]
          refine o_aload W318 (pc' := 510) (hb hy at_508) rfl rfl rfl ?_
          refine o_acmpN W318 (pc' := 513) (hb hy at_510) rfl rfl (XT.aa_ne_f rfl) rfl ?_
          refine o_iconst W318 (v := 1) (pc' := 514) (hb hy at_513) rfl rfl ?_
          refine o_goto W318 (pc' := 518) (hb hy at_514) (by decide) rfl ?_
          exact o_retN W318 hlk (t := .boolean) hret (by simp) (z' := (1 : Int32)) (by decide) (hb hy at_518) (by decide) (by decide) rfl
      · refine o_irem W273 (v := 5) (pc' := 341) (hb hy at_340) (by decide) ek278 rfl ?_
        refine o_istore W273 (L' := #[.val (.int p0), .val (.int p1), .val (.int p2), .val (.int p3), .val (.int 0), .val (.int 1), .val (.int (p2 &&& (255 : Int32))), .val (.ref b224), .val (.ref b232), .val (.ref b245), .val (.ref b254), .val (.ref b255), .val (.ref b263), .unset, .unset, .val (.ref b224), .val (.ref gO1), .val (.int 5), .unset]) (pc' := 343) (hb hy at_341) rfl rfl ?_
        refine o_aload W273 (pc' := 345) (hb hy at_343) rfl rfl rfl ?_
        refine o_iload W273 (pc' := 347) (hb hy at_345) rfl rfl ?_
        refine o_caload W273 c277 (x := (114 : Int32)) (i := 5) (by decide) (by decide) (by decide) rfl (pc' := 348) (hb hy at_347) rfl ?_
        refine o_istore W273 (L' := #[.val (.int p0), .val (.int p1), .val (.int p2), .val (.int p3), .val (.int 0), .val (.int 1), .val (.int (p2 &&& (255 : Int32))), .val (.ref b224), .val (.ref b232), .val (.ref b245), .val (.ref b254), .val (.ref b255), .val (.ref b263), .unset, .unset, .val (.ref b224), .val (.ref gO1), .val (.int 5), .val (.int 114)]) (pc' := 350) (hb hy at_348) rfl rfl ?_
        refine o_iload W273 (pc' := 352) (hb hy at_350) rfl rfl ?_
        refine o_ifN W273 (pc' := 355) (hb hy at_352) (XT.i0_eq_f (by decide)) rfl ?_
        refine o_aload W273 (pc' := 357) (hb hy at_355) rfl rfl rfl ?_
        refine o_iload W273 (pc' := 359) (hb hy at_357) rfl rfl ?_
        refine o_iload W273 (pc' := 361) (hb hy at_359) rfl rfl ?_
        refine o_stC W273 c277 (i := 5) (x' := (p2 &&& (255 : Int32))) (by decide) (by decide) (by decide) (Nat.lt_of_sub_eq_succ rfl) (own_i2c (own_b255 _)) (vs' := [(.int 117), (.int 110), (.int 105), (.int 102), (.int 111), (.int (p2 &&& (255 : Int32))), (.int 109)]) rfl gz224 (Or.inr gb224) (fun _ _ => trivial) (pc' := 362) (hb hy at_361) rfl ?_
        intro T319 h319 lo319 W319 R319 V319
        refine o_new W319 (w5 hw) (w6 hw) (w7 hw) (fun _ _ => trivial) (pc' := 365) (hb hy at_362) rfl (cells' := 7) (slots' := 49) rfl rfl (by decide) (by decide) ?_
        intro b320 T320 h320 W320 E320 ge320 gz320 gb320 A320 D320
        have Fb320_coder : Fld Z h320 b320 "java/lang/String" "coder" "B" (.int 0) := D320 (Or.inr (w31 hw)) (ty := .byte) (by decide)
        have Fb320_value : Fld Z h320 b320 "java/lang/String" "value" "[B" .null := D320 (Or.inr (w33 hw)) (ty := (.array .byte)) (by decide)
        refine o_dup W320 (pc' := 366) (hb hy at_365) rfl rfl ?_
        refine o_aload W320 (pc' := 368) (hb hy at_366) rfl rfl rfl ?_
        have c321 := (V319.ext E320)
        have ok322 : own_ok [(117 : Int32), (110 : Int32), (105 : Int32), (102 : Int32), (111 : Int32), (p2 &&& (255 : Int32)), (109 : Int32)] := ⟨by simp only [List.mem_cons, List.not_mem_nil, or_false, forall_eq_or_imp, forall_eq, false_imp_iff, implies_true]; exact ⟨(by unfold own_b; decide), (by unfold own_b; decide), (by unfold own_b; decide), (by unfold own_b; decide), (by unfold own_b; decide), (own_b255 _), (by unfold own_b; decide)⟩, Nat.le_of_ble_eq_true rfl⟩
        refine o_special W320 (y := (⟨"java/lang/String", "<init>", "([C)V"⟩ : MethodName)) rfl (w8 hw) (w9 hw) (w10 hw) (by decide) (a := b320) (argsL := [(.ref b224)]) (StrChars.Road.backV (W := 1) W320.2.2.2.1 (own_hV hw) (kI := 4) (w6 hw) (cs := [(117 : Int32), (110 : Int32), (105 : Int32), (102 : Int32), (111 : Int32), (p2 &&& (255 : Int32)), (109 : Int32)]) (bs := [((117 : Int32)).toInt8.toInt32, ((110 : Int32)).toInt8.toInt32, ((105 : Int32)).toInt8.toInt32, ((102 : Int32)).toInt8.toInt32, ((111 : Int32)).toInt8.toInt32, ((p2 &&& (255 : Int32))).toInt8.toInt32, ((109 : Int32)).toInt8.toInt32]) (n := 7) (n0 := Z.heap.size) gz320 W320.zs A320 Fb320_value Fb320_coder c321 (SgCS.ext W320.ox) NgCS rfl rfl (by decide) (by decide) ok322.1 rfl (by decide) (by decide)) (by rw [hml]; rfl) (lenOf pd0 rfl) (S := [(.ref b320)]) rfl (by exact Nat.le_of_eq rfl) (pc' := 371) (hb hy at_368) rfl (cells' := 8) (slots' := 56) rfl rfl (by decide) (by decide) (wy := [b320]) (fun _ _ _ q => ⟨q.2.1, q.2.2.1⟩) (allS ⟨gz320, (Or.inr gb320)⟩ all0) (fun _ _ => trivial) ?_
        intro v323 T323 h323 lo323 W323 K323 q323
        obtain ⟨rfl, -, -, X323, Fc323, t323, kb323, gz323, ge323, -, Fv323, A323⟩ := q323
        have B323 : Arv Z h323 t323 kb323 .byte (7 : Int32) [(.int (StrChars.lo8 (117 : Int32))), (.int (StrChars.lo8 (110 : Int32))), (.int (StrChars.lo8 (105 : Int32))), (.int (StrChars.lo8 (102 : Int32))), (.int (StrChars.lo8 (111 : Int32))), (.int (StrChars.lo8 (p2 &&& (255 : Int32)))), (.int (StrChars.lo8 (109 : Int32)))] (.int 0) := A323
        show Gl _ _ _ _ _ _ _ _ [(.ref b320)]
        refine o_astore W323 (L' := #[.val (.int p0), .val (.int p1), .val (.int p2), .val (.int p3), .val (.int 0), .val (.int 1), .val (.int (p2 &&& (255 : Int32))), .val (.ref b224), .val (.ref b232), .val (.ref b245), .val (.ref b254), .val (.ref b255), .val (.ref b263), .val (.ref b320), .unset, .val (.ref b224), .val (.ref gO1), .val (.int 5), .val (.int 114)]) (pc' := 373) (hb hy at_371) rfl rfl rfl ?_
        refine o_iload W323 (pc' := 375) (hb hy at_373) rfl rfl ?_
        refine o_ifN W323 (pc' := 378) (hb hy at_375) (XT.i0_eq_f (by decide)) rfl ?_
        refine o_iload W323 (pc' := 380) (hb hy at_378) rfl rfl ?_
        refine o_iload W323 (pc' := 382) (hb hy at_380) rfl rfl ?_
        rcases (Classical.em ((p2 &&& (255 : Int32)) = (114 : Int32))).symm with hq324 | hq324
        · refine o_icmpY W323 (pc' := 392) (hb hy at_382) (XT.ii_ne_t hq324) (by decide) rfl ?_
          refine o_aconstNull W323 (pc' := 393) (hb hy at_392) rfl ?_
          refine o_astore W323 (L' := #[.val (.int p0), .val (.int p1), .val (.int p2), .val (.int p3), .val (.int 0), .val (.int 1), .val (.int (p2 &&& (255 : Int32))), .val (.ref b224), .val (.ref b232), .val (.ref b245), .val (.ref b254), .val (.ref b255), .val (.ref b263), .val (.ref b320), .val .null, .val (.ref b224), .val (.ref gO1), .val (.int 5), .val (.int 114)]) (pc' := 395) (hb hy at_393) rfl rfl rfl ?_
          refine o_goto W323 (pc' := 503) (hb hy at_395) (by decide) rfl ?_
          refine o_aload W323 (pc' := 505) (hb hy at_503) rfl rfl rfl ?_
          refine o_static W323 (y := (⟨"com/example/sessn/sessn/session/Weights", "labelled", "(Ljava/lang/String;)Lcom/example/sessn/sessn/session/Weights;"⟩ : MethodName)) (w34 hw) (w35 hw) (w2 hw) (w36 hw) (by decide) (argsL := [(.ref b320)]) (CtrN.back (Wd := 0) W323 (rm9 l Z a0 hw gCS gO1 gO2 gO4 gO6 gO8 gO9 gO10 gO11 gO12 gO13 k_gO2 k_gO9 k_gO11 k_gO13 b320 t323 kb323 [(117 : Int32), (110 : Int32), (105 : Int32), (102 : Int32), (111 : Int32), (p2 &&& (255 : Int32)), (109 : Int32)] h323 W323.old SgO2__VALUES VgO2 XgO2 FitgO2 FgO1_label SgCS NgCS XgO8 FgO8_value FgO8_coder VgO9 X323 Fv323 Fc323 B323 ok322 (own_eqN (by simp [hq324, Ne.symm hq324])) FgO4_label XgO10 FgO10_value FgO10_coder VgO11 (own_eqN (by simp)) FgO6_label XgO12 FgO12_value FgO12_coder VgO13 (own_eqN (by simp))) (w36 hw) (w2 hw) (by decide) (by decide)) (by rw [hml]; rfl) (lenOf pd3 rfl) (S := []) rfl (by exact Nat.le_of_eq rfl) (pc' := 508) (hb hy at_505) rfl (cells' := 9) (slots' := 59) rfl rfl (by decide) (by decide) (wy := []) (fun _ _ _ q => ⟨q.1, q.2.1⟩) all0 (fun _ _ => trivial) ?_
          intro v325 T325 h325 lo325 W325 K325 q325
          obtain rfl := q325.2.2
          show Gl _ _ _ _ _ _ _ _ [.null]
          refine o_aload W325 (pc' := 510) (hb hy at_508) rfl rfl rfl ?_
          refine o_acmpN W325 (pc' := 513) (hb hy at_510) rfl rfl (XT.aa_ne_f rfl) rfl ?_
          refine o_iconst W325 (v := 1) (pc' := 514) (hb hy at_513) rfl rfl ?_
          refine o_goto W325 (pc' := 518) (hb hy at_514) (by decide) rfl ?_
          exact o_retN W325 hlk (t := .boolean) hret (by simp) (z' := (1 : Int32)) (by decide) (hb hy at_518) (by decide) (by decide) rfl
        · refine o_icmpN W323 (pc' := 385) (hb hy at_382) (XT.ii_ne_f hq324) rfl ?_
          refine o_aload W323 (pc' := 387) (hb hy at_385) rfl rfl rfl ?_
          refine o_astore W323 (L' := #[.val (.int p0), .val (.int p1), .val (.int p2), .val (.int p3), .val (.int 0), .val (.int 1), .val (.int (p2 &&& (255 : Int32))), .val (.ref b224), .val (.ref b232), .val (.ref b245), .val (.ref b254), .val (.ref b255), .val (.ref b263), .val (.ref b320), .val (.ref gO1), .val (.ref b224), .val (.ref gO1), .val (.int 5), .val (.int 114)]) (pc' := 389) (hb hy at_387) rfl rfl rfl ?_
          refine o_goto W323 (pc' := 395) (hb hy at_389) (by decide) rfl ?_
          refine o_goto W323 (pc' := 503) (hb hy at_395) (by decide) rfl ?_
          refine o_aload W323 (pc' := 505) (hb hy at_503) rfl rfl rfl ?_
          refine o_static W323 (y := (⟨"com/example/sessn/sessn/session/Weights", "labelled", "(Ljava/lang/String;)Lcom/example/sessn/sessn/session/Weights;"⟩ : MethodName)) (w34 hw) (w35 hw) (w2 hw) (w36 hw) (by decide) (argsL := [(.ref b320)]) (CtrN.back (Wd := 0) W323 (rm2 l Z a0 hw gCS gO1 gO2 gO4 gO6 gO8 gO9 gO10 gO11 gO12 gO13 k_gO2 k_gO9 k_gO11 k_gO13 b320 t323 kb323 [(117 : Int32), (110 : Int32), (105 : Int32), (102 : Int32), (111 : Int32), (p2 &&& (255 : Int32)), (109 : Int32)] h323 W323.old SgO2__VALUES VgO2 XgO2 FitgO2 FgO1_label SgCS NgCS XgO8 FgO8_value FgO8_coder VgO9 X323 Fv323 Fc323 B323 ok322 (own_eqY (by simp [hq324])) FgO4_label XgO10 FgO10_value FgO10_coder VgO11 (own_eqN (by simp)) FgO6_label XgO12 FgO12_value FgO12_coder VgO13 (own_eqN (by simp))) (w36 hw) (w2 hw) (by decide) (by decide)) (by rw [hml]; rfl) (lenOf pd3 rfl) (S := []) rfl (by exact Nat.le_of_eq rfl) (pc' := 508) (hb hy at_505) rfl (cells' := 9) (slots' := 59) rfl rfl (by decide) (by decide) (wy := []) (fun _ _ _ q => ⟨q.1, q.2.1⟩) all0 (fun _ _ => trivial) ?_
          intro v326 T326 h326 lo326 W326 K326 q326
          obtain rfl := q326.2.2
          show Gl _ _ _ _ _ _ _ _ [(.ref gO1)]
          refine o_aload W326 (pc' := 510) (hb hy at_508) rfl rfl rfl ?_
          refine o_acmpN W326 (pc' := 513) (hb hy at_510) rfl rfl (XT.aa_ne_f rfl) rfl ?_
          refine o_iconst W326 (v := 1) (pc' := 514) (hb hy at_513) rfl rfl ?_
          refine o_goto W326 (pc' := 518) (hb hy at_514) (by decide) rfl ?_
          exact o_retN W326 hlk (t := .boolean) hret (by simp) (z' := (1 : Int32)) (by decide) (hb hy at_518) (by decide) (by decide) rfl
      · refine o_irem W273 (v := 6) (pc' := 341) (hb hy at_340) (by decide) ek278 rfl ?_
        refine o_istore W273 (L' := #[.val (.int p0), .val (.int p1), .val (.int p2), .val (.int p3), .val (.int 0), .val (.int 1), .val (.int (p2 &&& (255 : Int32))), .val (.ref b224), .val (.ref b232), .val (.ref b245), .val (.ref b254), .val (.ref b255), .val (.ref b263), .unset, .unset, .val (.ref b224), .val (.ref gO1), .val (.int 6), .unset]) (pc' := 343) (hb hy at_341) rfl rfl ?_
        refine o_aload W273 (pc' := 345) (hb hy at_343) rfl rfl rfl ?_
        refine o_iload W273 (pc' := 347) (hb hy at_345) rfl rfl ?_
        refine o_caload W273 c277 (x := (109 : Int32)) (i := 6) (by decide) (by decide) (by decide) rfl (pc' := 348) (hb hy at_347) rfl ?_
        refine o_istore W273 (L' := #[.val (.int p0), .val (.int p1), .val (.int p2), .val (.int p3), .val (.int 0), .val (.int 1), .val (.int (p2 &&& (255 : Int32))), .val (.ref b224), .val (.ref b232), .val (.ref b245), .val (.ref b254), .val (.ref b255), .val (.ref b263), .unset, .unset, .val (.ref b224), .val (.ref gO1), .val (.int 6), .val (.int 109)]) (pc' := 350) (hb hy at_348) rfl rfl ?_
        refine o_iload W273 (pc' := 352) (hb hy at_350) rfl rfl ?_
        refine o_ifN W273 (pc' := 355) (hb hy at_352) (XT.i0_eq_f (by decide)) rfl ?_
        refine o_aload W273 (pc' := 357) (hb hy at_355) rfl rfl rfl ?_
        refine o_iload W273 (pc' := 359) (hb hy at_357) rfl rfl ?_
        refine o_iload W273 (pc' := 361) (hb hy at_359) rfl rfl ?_
        refine o_stC W273 c277 (i := 6) (x' := (p2 &&& (255 : Int32))) (by decide) (by decide) (by decide) (Nat.lt_of_sub_eq_succ rfl) (own_i2c (own_b255 _)) (vs' := [(.int 117), (.int 110), (.int 105), (.int 102), (.int 111), (.int 114), (.int (p2 &&& (255 : Int32)))]) rfl gz224 (Or.inr gb224) (fun _ _ => trivial) (pc' := 362) (hb hy at_361) rfl ?_
        intro T327 h327 lo327 W327 R327 V327
        refine o_new W327 (w5 hw) (w6 hw) (w7 hw) (fun _ _ => trivial) (pc' := 365) (hb hy at_362) rfl (cells' := 7) (slots' := 49) rfl rfl (by decide) (by decide) ?_
        intro b328 T328 h328 W328 E328 ge328 gz328 gb328 A328 D328
        have Fb328_coder : Fld Z h328 b328 "java/lang/String" "coder" "B" (.int 0) := D328 (Or.inr (w31 hw)) (ty := .byte) (by decide)
        have Fb328_value : Fld Z h328 b328 "java/lang/String" "value" "[B" .null := D328 (Or.inr (w33 hw)) (ty := (.array .byte)) (by decide)
        refine o_dup W328 (pc' := 366) (hb hy at_365) rfl rfl ?_
        refine o_aload W328 (pc' := 368) (hb hy at_366) rfl rfl rfl ?_
        have c329 := (V327.ext E328)
        have ok330 : own_ok [(117 : Int32), (110 : Int32), (105 : Int32), (102 : Int32), (111 : Int32), (114 : Int32), (p2 &&& (255 : Int32))] := ⟨by simp only [List.mem_cons, List.not_mem_nil, or_false, forall_eq_or_imp, forall_eq, false_imp_iff, implies_true]; exact ⟨(by unfold own_b; decide), (by unfold own_b; decide), (by unfold own_b; decide), (by unfold own_b; decide), (by unfold own_b; decide), (by unfold own_b; decide), (own_b255 _)⟩, Nat.le_of_ble_eq_true rfl⟩
        refine o_special W328 (y := (⟨"java/lang/String", "<init>", "([C)V"⟩ : MethodName)) rfl (w8 hw) (w9 hw) (w10 hw) (by decide) (a := b328) (argsL := [(.ref b224)]) (StrChars.Road.backV (W := 1) W328.2.2.2.1 (own_hV hw) (kI := 4) (w6 hw) (cs := [(117 : Int32), (110 : Int32), (105 : Int32), (102 : Int32), (111 : Int32), (114 : Int32), (p2 &&& (255 : Int32))]) (bs := [((117 : Int32)).toInt8.toInt32, ((110 : Int32)).toInt8.toInt32, ((105 : Int32)).toInt8.toInt32, ((102 : Int32)).toInt8.toInt32, ((111 : Int32)).toInt8.toInt32, ((114 : Int32)).toInt8.toInt32, ((p2 &&& (255 : Int32))).toInt8.toInt32]) (n := 7) (n0 := Z.heap.size) gz328 W328.zs A328 Fb328_value Fb328_coder c329 (SgCS.ext W328.ox) NgCS rfl rfl (by decide) (by decide) ok330.1 rfl (by decide) (by decide)) (by rw [hml]; rfl) (lenOf pd0 rfl) (S := [(.ref b328)]) rfl (by exact Nat.le_of_eq rfl) (pc' := 371) (hb hy at_368) rfl (cells' := 8) (slots' := 56) rfl rfl (by decide) (by decide) (wy := [b328]) (fun _ _ _ q => ⟨q.2.1, q.2.2.1⟩) (allS ⟨gz328, (Or.inr gb328)⟩ all0) (fun _ _ => trivial) ?_
        intro v331 T331 h331 lo331 W331 K331 q331
        obtain ⟨rfl, -, -, X331, Fc331, t331, kb331, gz331, ge331, -, Fv331, A331⟩ := q331
        have B331 : Arv Z h331 t331 kb331 .byte (7 : Int32) [(.int (StrChars.lo8 (117 : Int32))), (.int (StrChars.lo8 (110 : Int32))), (.int (StrChars.lo8 (105 : Int32))), (.int (StrChars.lo8 (102 : Int32))), (.int (StrChars.lo8 (111 : Int32))), (.int (StrChars.lo8 (114 : Int32))), (.int (StrChars.lo8 (p2 &&& (255 : Int32))))] (.int 0) := A331
        show Gl _ _ _ _ _ _ _ _ [(.ref b328)]
        refine o_astore W331 (L' := #[.val (.int p0), .val (.int p1), .val (.int p2), .val (.int p3), .val (.int 0), .val (.int 1), .val (.int (p2 &&& (255 : Int32))), .val (.ref b224), .val (.ref b232), .val (.ref b245), .val (.ref b254), .val (.ref b255), .val (.ref b263), .val (.ref b328), .unset, .val (.ref b224), .val (.ref gO1), .val (.int 6), .val (.int 109)]) (pc' := 373) (hb hy at_371) rfl rfl rfl ?_
        refine o_iload W331 (pc' := 375) (hb hy at_373) rfl rfl ?_
        refine o_ifN W331 (pc' := 378) (hb hy at_375) (XT.i0_eq_f (by decide)) rfl ?_
        refine o_iload W331 (pc' := 380) (hb hy at_378) rfl rfl ?_
        refine o_iload W331 (pc' := 382) (hb hy at_380) rfl rfl ?_
        rcases (Classical.em ((p2 &&& (255 : Int32)) = (109 : Int32))).symm with hq332 | hq332
        · refine o_icmpY W331 (pc' := 392) (hb hy at_382) (XT.ii_ne_t hq332) (by decide) rfl ?_
          refine o_aconstNull W331 (pc' := 393) (hb hy at_392) rfl ?_
          refine o_astore W331 (L' := #[.val (.int p0), .val (.int p1), .val (.int p2), .val (.int p3), .val (.int 0), .val (.int 1), .val (.int (p2 &&& (255 : Int32))), .val (.ref b224), .val (.ref b232), .val (.ref b245), .val (.ref b254), .val (.ref b255), .val (.ref b263), .val (.ref b328), .val .null, .val (.ref b224), .val (.ref gO1), .val (.int 6), .val (.int 109)]) (pc' := 395) (hb hy at_393) rfl rfl rfl ?_
          refine o_goto W331 (pc' := 503) (hb hy at_395) (by decide) rfl ?_
          refine o_aload W331 (pc' := 505) (hb hy at_503) rfl rfl rfl ?_
          refine o_static W331 (y := (⟨"com/example/sessn/sessn/session/Weights", "labelled", "(Ljava/lang/String;)Lcom/example/sessn/sessn/session/Weights;"⟩ : MethodName)) (w34 hw) (w35 hw) (w2 hw) (w36 hw) (by decide) (argsL := [(.ref b328)]) (CtrN.back (Wd := 0) W331 (rm9 l Z a0 hw gCS gO1 gO2 gO4 gO6 gO8 gO9 gO10 gO11 gO12 gO13 k_gO2 k_gO9 k_gO11 k_gO13 b328 t331 kb331 [(117 : Int32), (110 : Int32), (105 : Int32), (102 : Int32), (111 : Int32), (114 : Int32), (p2 &&& (255 : Int32))] h331 W331.old SgO2__VALUES VgO2 XgO2 FitgO2 FgO1_label SgCS NgCS XgO8 FgO8_value FgO8_coder VgO9 X331 Fv331 Fc331 B331 ok330 (own_eqN (by simp [hq332, Ne.symm hq332])) FgO4_label XgO10 FgO10_value FgO10_coder VgO11 (own_eqN (by simp)) FgO6_label XgO12 FgO12_value FgO12_coder VgO13 (own_eqN (by simp))) (w36 hw) (w2 hw) (by decide) (by decide)) (by rw [hml]; rfl) (lenOf pd3 rfl) (S := []) rfl (by exact Nat.le_of_eq rfl) (pc' := 508) (hb hy at_505) rfl (cells' := 9) (slots' := 59) rfl rfl (by decide) (by decide) (wy := []) (fun _ _ _ q => ⟨q.1, q.2.1⟩) all0 (fun _ _ => trivial) ?_
          intro v333 T333 h333 lo333 W333 K333 q333
          obtain rfl := q333.2.2
          show Gl _ _ _ _ _ _ _ _ [.null]
          refine o_aload W333 (pc' := 510) (hb hy at_508) rfl rfl rfl ?_
          refine o_acmpN W333 (pc' := 513) (hb hy at_510) rfl rfl (XT.aa_ne_f rfl) rfl ?_
          refine o_iconst W333 (v := 1) (pc' := 514) (hb hy at_513) rfl rfl ?_
          refine o_goto W333 (pc' := 518) (hb hy at_514) (by decide) rfl ?_
          exact o_retN W333 hlk (t := .boolean) hret (by simp) (z' := (1 : Int32)) (by decide) (hb hy at_518) (by decide) (by decide) rfl
        · refine o_icmpN W331 (pc' := 385) (hb hy at_382) (XT.ii_ne_f hq332) rfl ?_
          refine o_aload W331 (pc' := 387) (hb hy at_385) rfl rfl rfl ?_
          refine o_astore W331 (L' := #[.val (.int p0), .val (.int p1), .val (.int p2), .val (.int p3), .val (.int 0), .val (.int 1), .val (.int (p2 &&& (255 : Int32))), .val (.ref b224), .val (.ref b232), .val (.ref b245), .val (.ref b254), .val (.ref b255), .val (.ref b263), .val (.ref b328), .val (.ref gO1), .val (.ref b224), .val (.ref gO1), .val (.int 6), .val (.int 109)]) (pc' := 389) (hb hy at_387) rfl rfl rfl ?_
          refine o_goto W331 (pc' := 395) (hb hy at_389) (by decide) rfl ?_
          refine o_goto W331 (pc' := 503) (hb hy at_395) (by decide) rfl ?_
          refine o_aload W331 (pc' := 505) (hb hy at_503) rfl rfl rfl ?_
          refine o_static W331 (y := (⟨"com/example/sessn/sessn/session/Weights", "labelled", "(Ljava/lang/String;)Lcom/example/sessn/sessn/session/Weights;"⟩ : MethodName)) (w34 hw) (w35 hw) (w2 hw) (w36 hw) (by decide) (argsL := [(.ref b328)]) (CtrN.back (Wd := 0) W331 (rm2 l Z a0 hw gCS gO1 gO2 gO4 gO6 gO8 gO9 gO10 gO11 gO12 gO13 k_gO2 k_gO9 k_gO11 k_gO13 b328 t331 kb331 [(117 : Int32), (110 : Int32), (105 : Int32), (102 : Int32), (111 : Int32), (114 : Int32), (p2 &&& (255 : Int32))] h331 W331.old SgO2__VALUES VgO2 XgO2 FitgO2 FgO1_label SgCS NgCS XgO8 FgO8_value FgO8_coder VgO9 X331 Fv331 Fc331 B331 ok330 (own_eqY (by simp [hq332])) FgO4_label XgO10 FgO10_value FgO10_coder VgO11 (own_eqN (by simp)) FgO6_label XgO12 FgO12_value FgO12_coder VgO13 (own_eqN (by simp))) (w36 hw) (w2 hw) (by decide) (by decide)) (by rw [hml]; rfl) (lenOf pd3 rfl) (S := []) rfl (by exact Nat.le_of_eq rfl) (pc' := 508) (hb hy at_505) rfl (cells' := 9) (slots' := 59) rfl rfl (by decide) (by decide) (wy := []) (fun _ _ _ q => ⟨q.1, q.2.1⟩) all0 (fun _ _ => trivial) ?_
          intro v334 T334 h334 lo334 W334 K334 q334
          obtain rfl := q334.2.2
          show Gl _ _ _ _ _ _ _ _ [(.ref gO1)]
          refine o_aload W334 (pc' := 510) (hb hy at_508) rfl rfl rfl ?_
          refine o_acmpN W334 (pc' := 513) (hb hy at_510) rfl rfl (XT.aa_ne_f rfl) rfl ?_
          refine o_iconst W334 (v := 1) (pc' := 514) (hb hy at_513) rfl rfl ?_
          refine o_goto W334 (pc' := 518) (hb hy at_514) (by decide) rfl ?_
          exact o_retN W334 hlk (t := .boolean) hret (by simp) (z' := (1 : Int32)) (by decide) (hb hy at_518) (by decide) (by decide) rfl
    · rw [ek272]
      refine o_iload W271 (pc' := 285) (hb hy at_283) rfl rfl ?_
      refine o_iconst W271 (v := 3) (pc' := 286) (hb hy at_285) rfl rfl ?_
      refine o_icmpN W271 (pc' := 289) (hb hy at_286) (XT.ii_ge_f (by decide)) rfl ?_
      refine o_iload W271 (pc' := 291) (hb hy at_289) rfl rfl ?_
      refine o_ifY W271 (pc' := 306) (hb hy at_291) (XT.i0_ne_t (by decide)) (by decide) rfl ?_
      refine o_iload W271 (pc' := 308) (hb hy at_306) rfl rfl ?_
      refine o_iconst W271 (v := 1) (pc' := 309) (hb hy at_308) rfl rfl ?_
      refine o_icmpN W271 (pc' := 312) (hb hy at_309) (XT.ii_ne_f (by decide)) rfl ?_
      refine o_aload W271 (pc' := 314) (hb hy at_312) rfl rfl rfl ?_
      refine o_astore W271 (L' := #[.val (.int p0), .val (.int p1), .val (.int p2), .val (.int p3), .val (.int 1), .val (.int 1), .val (.int (p2 &&& (255 : Int32))), .val (.ref b224), .val (.ref b232), .val (.ref b245), .val (.ref b254), .val (.ref b255), .val (.ref b263), .unset, .unset, .val (.ref b232), .unset, .unset, .unset]) (pc' := 316) (hb hy at_314) rfl rfl rfl ?_
      refine o_getS W271 (w67 hw) Via.refl (SgO4_PREV_CURRENT.ext W271.ox) (pc' := 319) (hb hy at_316) rfl ?_
      intro T335 W335
      refine o_astore W335 (L' := #[.val (.int p0), .val (.int p1), .val (.int p2), .val (.int p3), .val (.int 1), .val (.int 1), .val (.int (p2 &&& (255 : Int32))), .val (.ref b224), .val (.ref b232), .val (.ref b245), .val (.ref b254), .val (.ref b255), .val (.ref b263), .unset, .unset, .val (.ref b232), .val (.ref gO4), .unset, .unset]) (pc' := 321) (hb hy at_319) rfl rfl rfl ?_
      refine o_goto W335 (pc' := 333) (hb hy at_321) (by decide) rfl ?_
      refine o_iloadN W335 (pc' := 334) (hb hy at_333) rfl rfl ?_
      refine o_ldcI W335 (w4 hw) (pc' := 336) (hb hy at_334) rfl ?_
      refine o_iand W335 (v := (p1 &&& (2147483647 : Int32))) (pc' := 337) (hb hy at_336) rfl rfl ?_
      refine o_aload W335 (pc' := 339) (hb hy at_337) rfl rfl rfl ?_
      have c336 := ((((((((((V244.ext E245).other R246 (own_ne V244.lt ge245)).other R247 (own_ne V244.lt ge245)).other R248 (own_ne V244.lt ge245)).other R249 (own_ne V244.lt ge245)).other R250 (own_ne V244.lt ge245)).other R251 (own_ne V244.lt ge245)).other R252 (own_ne V244.lt ge245)).other R253 (own_ne V244.lt ge245)).ext E254)
      have c337 := ((((((((c336.ext E255).other R256 (own_ne c336.lt ge255)).other R257 (own_ne c336.lt ge255)).other R258 (own_ne c336.lt ge255)).other R259 (own_ne c336.lt ge255)).other R260 (own_ne c336.lt ge255)).other R261 (own_ne c336.lt ge255)).other R262 (own_ne c336.lt ge255))
      have c338 := (((((((((((((((((((((((((((V244.ext E245).other R246 (own_ne V244.lt ge245)).other R247 (own_ne V244.lt ge245)).other R248 (own_ne V244.lt ge245)).other R249 (own_ne V244.lt ge245)).other R250 (own_ne V244.lt ge245)).other R251 (own_ne V244.lt ge245)).other R252 (own_ne V244.lt ge245)).other R253 (own_ne V244.lt ge245)).ext E254).ext E255).other R256 (own_ne c336.lt ge255)).other R257 (own_ne c336.lt ge255)).other R258 (own_ne c336.lt ge255)).other R259 (own_ne c336.lt ge255)).other R260 (own_ne c336.lt ge255)).other R261 (own_ne c336.lt ge255)).other R262 (own_ne c336.lt ge255)).ext E263).other R264 (own_ne c337.lt ge263)).other R265 (own_ne c337.lt ge263)).other R266 (own_ne c337.lt ge263)).other R267 (own_ne c337.lt ge263)).other R268 (own_ne c337.lt ge263)).other R269 (own_ne c337.lt ge263)).other R270 (own_ne c337.lt ge263)).other R271 (own_ne c337.lt ge263))
      refine o_len W335 c338 (pc' := 340) (hb hy at_339) rfl ?_
      rcases own_rem12 p1 with ek339 | ek339 | ek339 | ek339 | ek339 | ek339 | ek339 | ek339 | ek339 | ek339 | ek339 | ek339
      · refine o_irem W335 (v := 0) (pc' := 341) (hb hy at_340) (by decide) ek339 rfl ?_
        refine o_istore W335 (L' := #[.val (.int p0), .val (.int p1), .val (.int p2), .val (.int p3), .val (.int 1), .val (.int 1), .val (.int (p2 &&& (255 : Int32))), .val (.ref b224), .val (.ref b232), .val (.ref b245), .val (.ref b254), .val (.ref b255), .val (.ref b263), .unset, .unset, .val (.ref b232), .val (.ref gO4), .val (.int 0), .unset]) (pc' := 343) (hb hy at_341) rfl rfl ?_
        refine o_aload W335 (pc' := 345) (hb hy at_343) rfl rfl rfl ?_
        refine o_iload W335 (pc' := 347) (hb hy at_345) rfl rfl ?_
        refine o_caload W335 c338 (x := (112 : Int32)) (i := 0) (by decide) (by decide) (by decide) rfl (pc' := 348) (hb hy at_347) rfl ?_
        refine o_istore W335 (L' := #[.val (.int p0), .val (.int p1), .val (.int p2), .val (.int p3), .val (.int 1), .val (.int 1), .val (.int (p2 &&& (255 : Int32))), .val (.ref b224), .val (.ref b232), .val (.ref b245), .val (.ref b254), .val (.ref b255), .val (.ref b263), .unset, .unset, .val (.ref b232), .val (.ref gO4), .val (.int 0), .val (.int 112)]) (pc' := 350) (hb hy at_348) rfl rfl ?_
        refine o_iload W335 (pc' := 352) (hb hy at_350) rfl rfl ?_
        refine o_ifN W335 (pc' := 355) (hb hy at_352) (XT.i0_eq_f (by decide)) rfl ?_
        refine o_aload W335 (pc' := 357) (hb hy at_355) rfl rfl rfl ?_
        refine o_iload W335 (pc' := 359) (hb hy at_357) rfl rfl ?_
        refine o_iload W335 (pc' := 361) (hb hy at_359) rfl rfl ?_
        refine o_stC W335 c338 (i := 0) (x' := (p2 &&& (255 : Int32))) (by decide) (by decide) (by decide) (Nat.lt_of_sub_eq_succ rfl) (own_i2c (own_b255 _)) (vs' := [(.int (p2 &&& (255 : Int32))), (.int 114), (.int 101), (.int 118), (.int 45), (.int 99), (.int 117), (.int 114), (.int 114), (.int 101), (.int 110), (.int 116)]) rfl gz232 (Or.inr gb232) (fun _ _ => trivial) (pc' := 362) (hb hy at_361) rfl ?_
        intro T340 h340 lo340 W340 R340 V340
        refine o_new W340 (w5 hw) (w6 hw) (w7 hw) (fun _ _ => trivial) (pc' := 365) (hb hy at_362) rfl (cells' := 7) (slots' := 49) rfl rfl (by decide) (by decide) ?_
        intro b341 T341 h341 W341 E341 ge341 gz341 gb341 A341 D341
        have Fb341_coder : Fld Z h341 b341 "java/lang/String" "coder" "B" (.int 0) := D341 (Or.inr (w31 hw)) (ty := .byte) (by decide)
        have Fb341_value : Fld Z h341 b341 "java/lang/String" "value" "[B" .null := D341 (Or.inr (w33 hw)) (ty := (.array .byte)) (by decide)
        refine o_dup W341 (pc' := 366) (hb hy at_365) rfl rfl ?_
        refine o_aload W341 (pc' := 368) (hb hy at_366) rfl rfl rfl ?_
        have c342 := (V340.ext E341)
        have ok343 : own_ok [(p2 &&& (255 : Int32)), (114 : Int32), (101 : Int32), (118 : Int32), (45 : Int32), (99 : Int32), (117 : Int32), (114 : Int32), (114 : Int32), (101 : Int32), (110 : Int32), (116 : Int32)] := ⟨by simp only [List.mem_cons, List.not_mem_nil, or_false, forall_eq_or_imp, forall_eq, false_imp_iff, implies_true]; exact ⟨(own_b255 _), (by unfold own_b; decide), (by unfold own_b; decide), (by unfold own_b; decide), (by unfold own_b; decide), (by unfold own_b; decide), (by unfold own_b; decide), (by unfold own_b; decide), (by unfold own_b; decide), (by unfold own_b; decide), (by unfold own_b; decide), (by unfold own_b; decide)⟩, Nat.le_of_ble_eq_true rfl⟩
        refine o_special W341 (y := (⟨"java/lang/String", "<init>", "([C)V"⟩ : MethodName)) rfl (w8 hw) (w9 hw) (w10 hw) (by decide) (a := b341) (argsL := [(.ref b232)]) (StrChars.Road.backV (W := 1) W341.2.2.2.1 (own_hV hw) (kI := 4) (w6 hw) (cs := [(p2 &&& (255 : Int32)), (114 : Int32), (101 : Int32), (118 : Int32), (45 : Int32), (99 : Int32), (117 : Int32), (114 : Int32), (114 : Int32), (101 : Int32), (110 : Int32), (116 : Int32)]) (bs := [((p2 &&& (255 : Int32))).toInt8.toInt32, ((114 : Int32)).toInt8.toInt32, ((101 : Int32)).toInt8.toInt32, ((118 : Int32)).toInt8.toInt32, ((45 : Int32)).toInt8.toInt32, ((99 : Int32)).toInt8.toInt32, ((117 : Int32)).toInt8.toInt32, ((114 : Int32)).toInt8.toInt32, ((114 : Int32)).toInt8.toInt32, ((101 : Int32)).toInt8.toInt32, ((110 : Int32)).toInt8.toInt32, ((116 : Int32)).toInt8.toInt32]) (n := 12) (n0 := Z.heap.size) gz341 W341.zs A341 Fb341_value Fb341_coder c342 (SgCS.ext W341.ox) NgCS rfl rfl (by decide) (by decide) ok343.1 rfl (by decide) (by decide)) (by rw [hml]; rfl) (lenOf pd0 rfl) (S := [(.ref b341)]) rfl (by exact Nat.le_of_eq rfl) (pc' := 371) (hb hy at_368) rfl (cells' := 8) (slots' := 61) rfl rfl (by decide) (by decide) (wy := [b341]) (fun _ _ _ q => ⟨q.2.1, q.2.2.1⟩) (allS ⟨gz341, (Or.inr gb341)⟩ all0) (fun _ _ => trivial) ?_
        intro v344 T344 h344 lo344 W344 K344 q344
        obtain ⟨rfl, -, -, X344, Fc344, t344, kb344, gz344, ge344, -, Fv344, A344⟩ := q344
        have B344 : Arv Z h344 t344 kb344 .byte (12 : Int32) [(.int (StrChars.lo8 (p2 &&& (255 : Int32)))), (.int (StrChars.lo8 (114 : Int32))), (.int (StrChars.lo8 (101 : Int32))), (.int (StrChars.lo8 (118 : Int32))), (.int (StrChars.lo8 (45 : Int32))), (.int (StrChars.lo8 (99 : Int32))), (.int (StrChars.lo8 (117 : Int32))), (.int (StrChars.lo8 (114 : Int32))), (.int (StrChars.lo8 (114 : Int32))), (.int (StrChars.lo8 (101 : Int32))), (.int (StrChars.lo8 (110 : Int32))), (.int (StrChars.lo8 (116 : Int32)))] (.int 0) := A344
        show Gl _ _ _ _ _ _ _ _ [(.ref b341)]
        refine o_astore W344 (L' := #[.val (.int p0), .val (.int p1), .val (.int p2), .val (.int p3), .val (.int 1), .val (.int 1), .val (.int (p2 &&& (255 : Int32))), .val (.ref b224), .val (.ref b232), .val (.ref b245), .val (.ref b254), .val (.ref b255), .val (.ref b263), .val (.ref b341), .unset, .val (.ref b232), .val (.ref gO4), .val (.int 0), .val (.int 112)]) (pc' := 373) (hb hy at_371) rfl rfl rfl ?_
        refine o_iload W344 (pc' := 375) (hb hy at_373) rfl rfl ?_
        refine o_ifN W344 (pc' := 378) (hb hy at_375) (XT.i0_eq_f (by decide)) rfl ?_
        refine o_iload W344 (pc' := 380) (hb hy at_378) rfl rfl ?_
        refine o_iload W344 (pc' := 382) (hb hy at_380) rfl rfl ?_
        rcases (Classical.em ((p2 &&& (255 : Int32)) = (112 : Int32))).symm with hq345 | hq345
        · refine o_icmpY W344 (pc' := 392) (hb hy at_382) (XT.ii_ne_t hq345) (by decide) rfl ?_
          refine o_aconstNull W344 (pc' := 393) (hb hy at_392) rfl ?_
          refine o_astore W344 (L' := #[.val (.int p0), .val (.int p1), .val (.int p2), .val (.int p3), .val (.int 1), .val (.int 1), .val (.int (p2 &&& (255 : Int32))), .val (.ref b224), .val (.ref b232), .val (.ref b245), .val (.ref b254), .val (.ref b255), .val (.ref b263), .val (.ref b341), .val .null, .val (.ref b232), .val (.ref gO4), .val (.int 0), .val (.int 112)]) (pc' := 395) (hb hy at_393) rfl rfl rfl ?_
          refine o_goto W344 (pc' := 503) (hb hy at_395) (by decide) rfl ?_
          refine o_aload W344 (pc' := 505) (hb hy at_503) rfl rfl rfl ?_
          refine o_static W344 (y := (⟨"com/example/sessn/sessn/session/Weights", "labelled", "(Ljava/lang/String;)Lcom/example/sessn/sessn/session/Weights;"⟩ : MethodName)) (w34 hw) (w35 hw) (w2 hw) (w36 hw) (by decide) (argsL := [(.ref b341)]) (CtrN.back (Wd := 0) W344 (rm9 l Z a0 hw gCS gO1 gO2 gO4 gO6 gO8 gO9 gO10 gO11 gO12 gO13 k_gO2 k_gO9 k_gO11 k_gO13 b341 t344 kb344 [(p2 &&& (255 : Int32)), (114 : Int32), (101 : Int32), (118 : Int32), (45 : Int32), (99 : Int32), (117 : Int32), (114 : Int32), (114 : Int32), (101 : Int32), (110 : Int32), (116 : Int32)] h344 W344.old SgO2__VALUES VgO2 XgO2 FitgO2 FgO1_label SgCS NgCS XgO8 FgO8_value FgO8_coder VgO9 X344 Fv344 Fc344 B344 ok343 (own_eqN (by simp)) FgO4_label XgO10 FgO10_value FgO10_coder VgO11 (own_eqN (by simp [hq345, Ne.symm hq345])) FgO6_label XgO12 FgO12_value FgO12_coder VgO13 (own_eqN (by simp))) (w36 hw) (w2 hw) (by decide) (by decide)) (by rw [hml]; rfl) (lenOf pd3 rfl) (S := []) rfl (by exact Nat.le_of_eq rfl) (pc' := 508) (hb hy at_505) rfl (cells' := 9) (slots' := 64) rfl rfl (by decide) (by decide) (wy := []) (fun _ _ _ q => ⟨q.1, q.2.1⟩) all0 (fun _ _ => trivial) ?_
          intro v346 T346 h346 lo346 W346 K346 q346
          obtain rfl := q346.2.2
          show Gl _ _ _ _ _ _ _ _ [.null]
          refine o_aload W346 (pc' := 510) (hb hy at_508) rfl rfl rfl ?_
          refine o_acmpN W346 (pc' := 513) (hb hy at_510) rfl rfl (XT.aa_ne_f rfl) rfl ?_
          refine o_iconst W346 (v := 1) (pc' := 514) (hb hy at_513) rfl rfl ?_
          refine o_goto W346 (pc' := 518) (hb hy at_514) (by decide) rfl ?_
          exact o_retN W346 hlk (t := .boolean) hret (by simp) (z' := (1 : Int32)) (by decide) (hb hy at_518) (by decide) (by decide) rfl
        · refine o_icmpN W344 (pc' := 385) (hb hy at_382) (XT.ii_ne_f hq345) rfl ?_
          refine o_aload W344 (pc' := 387) (hb hy at_385) rfl rfl rfl ?_
          refine o_astore W344 (L' := #[.val (.int p0), .val (.int p1), .val (.int p2), .val (.int p3), .val (.int 1), .val (.int 1), .val (.int (p2 &&& (255 : Int32))), .val (.ref b224), .val (.ref b232), .val (.ref b245), .val (.ref b254), .val (.ref b255), .val (.ref b263), .val (.ref b341), .val (.ref gO4), .val (.ref b232), .val (.ref gO4), .val (.int 0), .val (.int 112)]) (pc' := 389) (hb hy at_387) rfl rfl rfl ?_
          refine o_goto W344 (pc' := 395) (hb hy at_389) (by decide) rfl ?_
          refine o_goto W344 (pc' := 503) (hb hy at_395) (by decide) rfl ?_
          refine o_aload W344 (pc' := 505) (hb hy at_503) rfl rfl rfl ?_
          refine o_static W344 (y := (⟨"com/example/sessn/sessn/session/Weights", "labelled", "(Ljava/lang/String;)Lcom/example/sessn/sessn/session/Weights;"⟩ : MethodName)) (w34 hw) (w35 hw) (w2 hw) (w36 hw) (by decide) (argsL := [(.ref b341)]) (CtrN.back (Wd := 0) W344 (rm3 l Z a0 hw gCS gO1 gO2 gO4 gO6 gO8 gO9 gO10 gO11 gO12 gO13 k_gO2 k_gO9 k_gO11 k_gO13 b341 t344 kb344 [(p2 &&& (255 : Int32)), (114 : Int32), (101 : Int32), (118 : Int32), (45 : Int32), (99 : Int32), (117 : Int32), (114 : Int32), (114 : Int32), (101 : Int32), (110 : Int32), (116 : Int32)] h344 W344.old SgO2__VALUES VgO2 XgO2 FitgO2 FgO1_label SgCS NgCS XgO8 FgO8_value FgO8_coder VgO9 X344 Fv344 Fc344 B344 ok343 (own_eqN (by simp)) FgO4_label XgO10 FgO10_value FgO10_coder VgO11 (own_eqY (by simp [hq345])) FgO6_label XgO12 FgO12_value FgO12_coder VgO13 (own_eqN (by simp))) (w36 hw) (w2 hw) (by decide) (by decide)) (by rw [hml]; rfl) (lenOf pd3 rfl) (S := []) rfl (by exact Nat.le_of_eq rfl) (pc' := 508) (hb hy at_505) rfl (cells' := 9) (slots' := 64) rfl rfl (by decide) (by decide) (wy := []) (fun _ _ _ q => ⟨q.1, q.2.1⟩) all0 (fun _ _ => trivial) ?_
          intro v347 T347 h347 lo347 W347 K347 q347
          obtain rfl := q347.2.2
          show Gl _ _ _ _ _ _ _ _ [(.ref gO4)]
          refine o_aload W347 (pc' := 510) (hb hy at_508) rfl rfl rfl ?_
          refine o_acmpN W347 (pc' := 513) (hb hy at_510) rfl rfl (XT.aa_ne_f rfl) rfl ?_
          refine o_iconst W347 (v := 1) (pc' := 514) (hb hy at_513) rfl rfl ?_
          refine o_goto W347 (pc' := 518) (hb hy at_514) (by decide) rfl ?_
          exact o_retN W347 hlk (t := .boolean) hret (by simp) (z' := (1 : Int32)) (by decide) (hb hy at_518) (by decide) (by decide) rfl
      · refine o_irem W335 (v := 1) (pc' := 341) (hb hy at_340) (by decide) ek339 rfl ?_
        refine o_istore W335 (L' := #[.val (.int p0), .val (.int p1), .val (.int p2), .val (.int p3), .val (.int 1), .val (.int 1), .val (.int (p2 &&& (255 : Int32))), .val (.ref b224), .val (.ref b232), .val (.ref b245), .val (.ref b254), .val (.ref b255), .val (.ref b263), .unset, .unset, .val (.ref b232), .val (.ref gO4), .val (.int 1), .unset]) (pc' := 343) (hb hy at_341) rfl rfl ?_
        refine o_aload W335 (pc' := 345) (hb hy at_343) rfl rfl rfl ?_
        refine o_iload W335 (pc' := 347) (hb hy at_345) rfl rfl ?_
        refine o_caload W335 c338 (x := (114 : Int32)) (i := 1) (by decide) (by decide) (by decide) rfl (pc' := 348) (hb hy at_347) rfl ?_
        refine o_istore W335 (L' := #[.val (.int p0), .val (.int p1), .val (.int p2), .val (.int p3), .val (.int 1), .val (.int 1), .val (.int (p2 &&& (255 : Int32))), .val (.ref b224), .val (.ref b232), .val (.ref b245), .val (.ref b254), .val (.ref b255), .val (.ref b263), .unset, .unset, .val (.ref b232), .val (.ref gO4), .val (.int 1), .val (.int 114)]) (pc' := 350) (hb hy at_348) rfl rfl ?_
        refine o_iload W335 (pc' := 352) (hb hy at_350) rfl rfl ?_
        refine o_ifN W335 (pc' := 355) (hb hy at_352) (XT.i0_eq_f (by decide)) rfl ?_
        refine o_aload W335 (pc' := 357) (hb hy at_355) rfl rfl rfl ?_
        refine o_iload W335 (pc' := 359) (hb hy at_357) rfl rfl ?_
        refine o_iload W335 (pc' := 361) (hb hy at_359) rfl rfl ?_
        refine o_stC W335 c338 (i := 1) (x' := (p2 &&& (255 : Int32))) (by decide) (by decide) (by decide) (Nat.lt_of_sub_eq_succ rfl) (own_i2c (own_b255 _)) (vs' := [(.int 112), (.int (p2 &&& (255 : Int32))), (.int 101), (.int 118), (.int 45), (.int 99), (.int 117), (.int 114), (.int 114), (.int 101), (.int 110), (.int 116)]) rfl gz232 (Or.inr gb232) (fun _ _ => trivial) (pc' := 362) (hb hy at_361) rfl ?_
        intro T348 h348 lo348 W348 R348 V348
        refine o_new W348 (w5 hw) (w6 hw) (w7 hw) (fun _ _ => trivial) (pc' := 365) (hb hy at_362) rfl (cells' := 7) (slots' := 49) rfl rfl (by decide) (by decide) ?_
        intro b349 T349 h349 W349 E349 ge349 gz349 gb349 A349 D349
        have Fb349_coder : Fld Z h349 b349 "java/lang/String" "coder" "B" (.int 0) := D349 (Or.inr (w31 hw)) (ty := .byte) (by decide)
        have Fb349_value : Fld Z h349 b349 "java/lang/String" "value" "[B" .null := D349 (Or.inr (w33 hw)) (ty := (.array .byte)) (by decide)
        refine o_dup W349 (pc' := 366) (hb hy at_365) rfl rfl ?_
        refine o_aload W349 (pc' := 368) (hb hy at_366) rfl rfl rfl ?_
        have c350 := (V348.ext E349)
        have ok351 : own_ok [(112 : Int32), (p2 &&& (255 : Int32)), (101 : Int32), (118 : Int32), (45 : Int32), (99 : Int32), (117 : Int32), (114 : Int32), (114 : Int32), (101 : Int32), (110 : Int32), (116 : Int32)] := ⟨by simp only [List.mem_cons, List.not_mem_nil, or_false, forall_eq_or_imp, forall_eq, false_imp_iff, implies_true]; exact ⟨(by unfold own_b; decide), (own_b255 _), (by unfold own_b; decide), (by unfold own_b; decide), (by unfold own_b; decide), (by unfold own_b; decide), (by unfold own_b; decide), (by unfold own_b; decide), (by unfold own_b; decide), (by unfold own_b; decide), (by unfold own_b; decide), (by unfold own_b; decide)⟩, Nat.le_of_ble_eq_true rfl⟩
        refine o_special W349 (y := (⟨"java/lang/String", "<init>", "([C)V"⟩ : MethodName)) rfl (w8 hw) (w9 hw) (w10 hw) (by decide) (a := b349) (argsL := [(.ref b232)]) (StrChars.Road.backV (W := 1) W349.2.2.2.1 (own_hV hw) (kI := 4) (w6 hw) (cs := [(112 : Int32), (p2 &&& (255 : Int32)), (101 : Int32), (118 : Int32), (45 : Int32), (99 : Int32), (117 : Int32), (114 : Int32), (114 : Int32), (101 : Int32), (110 : Int32), (116 : Int32)]) (bs := [((112 : Int32)).toInt8.toInt32, ((p2 &&& (255 : Int32))).toInt8.toInt32, ((101 : Int32)).toInt8.toInt32, ((118 : Int32)).toInt8.toInt32, ((45 : Int32)).toInt8.toInt32, ((99 : Int32)).toInt8.toInt32, ((117 : Int32)).toInt8.toInt32, ((114 : Int32)).toInt8.toInt32, ((114 : Int32)).toInt8.toInt32, ((101 : Int32)).toInt8.toInt32, ((110 : Int32)).toInt8.toInt32, ((116 : Int32)).toInt8.toInt32]) (n := 12) (n0 := Z.heap.size) gz349 W349.zs A349 Fb349_value Fb349_coder c350 (SgCS.ext W349.ox) NgCS rfl rfl (by decide) (by decide) ok351.1 rfl (by decide) (by decide)) (by rw [hml]; rfl) (lenOf pd0 rfl) (S := [(.ref b349)]) rfl (by exact Nat.le_of_eq rfl) (pc' := 371) (hb hy at_368) rfl (cells' := 8) (slots' := 61) rfl rfl (by decide) (by decide) (wy := [b349]) (fun _ _ _ q => ⟨q.2.1, q.2.2.1⟩) (allS ⟨gz349, (Or.inr gb349)⟩ all0) (fun _ _ => trivial) ?_
        intro v352 T352 h352 lo352 W352 K352 q352
        obtain ⟨rfl, -, -, X352, Fc352, t352, kb352, gz352, ge352, -, Fv352, A352⟩ := q352
        have B352 : Arv Z h352 t352 kb352 .byte (12 : Int32) [(.int (StrChars.lo8 (112 : Int32))), (.int (StrChars.lo8 (p2 &&& (255 : Int32)))), (.int (StrChars.lo8 (101 : Int32))), (.int (StrChars.lo8 (118 : Int32))), (.int (StrChars.lo8 (45 : Int32))), (.int (StrChars.lo8 (99 : Int32))), (.int (StrChars.lo8 (117 : Int32))), (.int (StrChars.lo8 (114 : Int32))), (.int (StrChars.lo8 (114 : Int32))), (.int (StrChars.lo8 (101 : Int32))), (.int (StrChars.lo8 (110 : Int32))), (.int (StrChars.lo8 (116 : Int32)))] (.int 0) := A352
        show Gl _ _ _ _ _ _ _ _ [(.ref b349)]
        refine o_astore W352 (L' := #[.val (.int p0), .val (.int p1), .val (.int p2), .val (.int p3), .val (.int 1), .val (.int 1), .val (.int (p2 &&& (255 : Int32))), .val (.ref b224), .val (.ref b232), .val (.ref b245), .val (.ref b254), .val (.ref b255), .val (.ref b263), .val (.ref b349), .unset, .val (.ref b232), .val (.ref gO4), .val (.int 1), .val (.int 114)]) (pc' := 373) (hb hy at_371) rfl rfl rfl ?_
        refine o_iload W352 (pc' := 375) (hb hy at_373) rfl rfl ?_
        refine o_ifN W352 (pc' := 378) (hb hy at_375) (XT.i0_eq_f (by decide)) rfl ?_
        refine o_iload W352 (pc' := 380) (hb hy at_378) rfl rfl ?_
        refine o_iload W352 (pc' := 382) (hb hy at_380) rfl rfl ?_
        rcases (Classical.em ((p2 &&& (255 : Int32)) = (114 : Int32))).symm with hq353 | hq353
        · refine o_icmpY W352 (pc' := 392) (hb hy at_382) (XT.ii_ne_t hq353) (by decide) rfl ?_
          refine o_aconstNull W352 (pc' := 393) (hb hy at_392) rfl ?_
          refine o_astore W352 (L' := #[.val (.int p0), .val (.int p1), .val (.int p2), .val (.int p3), .val (.int 1), .val (.int 1), .val (.int (p2 &&& (255 : Int32))), .val (.ref b224), .val (.ref b232), .val (.ref b245), .val (.ref b254), .val (.ref b255), .val (.ref b263), .val (.ref b349), .val .null, .val (.ref b232), .val (.ref gO4), .val (.int 1), .val (.int 114)]) (pc' := 395) (hb hy at_393) rfl rfl rfl ?_
          refine o_goto W352 (pc' := 503) (hb hy at_395) (by decide) rfl ?_
          refine o_aload W352 (pc' := 505) (hb hy at_503) rfl rfl rfl ?_
          refine o_static W352 (y := (⟨"com/example/sessn/sessn/session/Weights", "labelled", "(Ljava/lang/String;)Lcom/example/sessn/sessn/session/Weights;"⟩ : MethodName)) (w34 hw) (w35 hw) (w2 hw) (w36 hw) (by decide) (argsL := [(.ref b349)]) (CtrN.back (Wd := 0) W352 (rm9 l Z a0 hw gCS gO1 gO2 gO4 gO6 gO8 gO9 gO10 gO11 gO12 gO13 k_gO2 k_gO9 k_gO11 k_gO13 b349 t352 kb352 [(112 : Int32), (p2 &&& (255 : Int32)), (101 : Int32), (118 : Int32), (45 : Int32), (99 : Int32), (117 : Int32), (114 : Int32), (114 : Int32), (101 : Int32), (110 : Int32), (116 : Int32)] h352 W352.old SgO2__VALUES VgO2 XgO2 FitgO2 FgO1_label SgCS NgCS XgO8 FgO8_value FgO8_coder VgO9 X352 Fv352 Fc352 B352 ok351 (own_eqN (by simp)) FgO4_label XgO10 FgO10_value FgO10_coder VgO11 (own_eqN (by simp [hq353, Ne.symm hq353])) FgO6_label XgO12 FgO12_value FgO12_coder VgO13 (own_eqN (by simp))) (w36 hw) (w2 hw) (by decide) (by decide)) (by rw [hml]; rfl) (lenOf pd3 rfl) (S := []) rfl (by exact Nat.le_of_eq rfl) (pc' := 508) (hb hy at_505) rfl (cells' := 9) (slots' := 64) rfl rfl (by decide) (by decide) (wy := []) (fun _ _ _ q => ⟨q.1, q.2.1⟩) all0 (fun _ _ => trivial) ?_
          intro v354 T354 h354 lo354 W354 K354 q354
          obtain rfl := q354.2.2
          show Gl _ _ _ _ _ _ _ _ [.null]
          refine o_aload W354 (pc' := 510) (hb hy at_508) rfl rfl rfl ?_
          refine o_acmpN W354 (pc' := 513) (hb hy at_510) rfl rfl (XT.aa_ne_f rfl) rfl ?_
          refine o_iconst W354 (v := 1) (pc' := 514) (hb hy at_513) rfl rfl ?_
          refine o_goto W354 (pc' := 518) (hb hy at_514) (by decide) rfl ?_
          exact o_retN W354 hlk (t := .boolean) hret (by simp) (z' := (1 : Int32)) (by decide) (hb hy at_518) (by decide) (by decide) rfl
        · refine o_icmpN W352 (pc' := 385) (hb hy at_382) (XT.ii_ne_f hq353) rfl ?_
          refine o_aload W352 (pc' := 387) (hb hy at_385) rfl rfl rfl ?_
          refine o_astore W352 (L' := #[.val (.int p0), .val (.int p1), .val (.int p2), .val (.int p3), .val (.int 1), .val (.int 1), .val (.int (p2 &&& (255 : Int32))), .val (.ref b224), .val (.ref b232), .val (.ref b245), .val (.ref b254), .val (.ref b255), .val (.ref b263), .val (.ref b349), .val (.ref gO4), .val (.ref b232), .val (.ref gO4), .val (.int 1), .val (.int 114)]) (pc' := 389) (hb hy at_387) rfl rfl rfl ?_
          refine o_goto W352 (pc' := 395) (hb hy at_389) (by decide) rfl ?_
          refine o_goto W352 (pc' := 503) (hb hy at_395) (by decide) rfl ?_
          refine o_aload W352 (pc' := 505) (hb hy at_503) rfl rfl rfl ?_
          refine o_static W352 (y := (⟨"com/example/sessn/sessn/session/Weights", "labelled", "(Ljava/lang/String;)Lcom/example/sessn/sessn/session/Weights;"⟩ : MethodName)) (w34 hw) (w35 hw) (w2 hw) (w36 hw) (by decide) (argsL := [(.ref b349)]) (CtrN.back (Wd := 0) W352 (rm3 l Z a0 hw gCS gO1 gO2 gO4 gO6 gO8 gO9 gO10 gO11 gO12 gO13 k_gO2 k_gO9 k_gO11 k_gO13 b349 t352 kb352 [(112 : Int32), (p2 &&& (255 : Int32)), (101 : Int32), (118 : Int32), (45 : Int32), (99 : Int32), (117 : Int32), (114 : Int32), (114 : Int32), (101 : Int32), (110 : Int32), (116 : Int32)] h352 W352.old SgO2__VALUES VgO2 XgO2 FitgO2 FgO1_label SgCS NgCS XgO8 FgO8_value FgO8_coder VgO9 X352 Fv352 Fc352 B352 ok351 (own_eqN (by simp)) FgO4_label XgO10 FgO10_value FgO10_coder VgO11 (own_eqY (by simp [hq353])) FgO6_label XgO12 FgO12_value FgO12_coder VgO13 (own_eqN (by simp))) (w36 hw) (w2 hw) (by decide) (by decide)) (by rw [hml]; rfl) (lenOf pd3 rfl) (S := []) rfl (by exact Nat.le_of_eq rfl) (pc' := 508) (hb hy at_505) rfl (cells' := 9) (slots' := 64) rfl rfl (by decide) (by decide) (wy := []) (fun _ _ _ q => ⟨q.1, q.2.1⟩) all0 (fun _ _ => trivial) ?_
          intro v355 T355 h355 lo355 W355 K355 q355
          obtain rfl := q355.2.2
          show Gl _ _ _ _ _ _ _ _ [(.ref gO4)]
          refine o_aload W355 (pc' := 510) (hb hy at_508) rfl rfl rfl ?_
          refine o_acmpN W355 (pc' := 513) (hb hy at_510) rfl rfl (XT.aa_ne_f rfl) rfl ?_
          refine o_iconst W355 (v := 1) (pc' := 514) (hb hy at_513) rfl rfl ?_
          refine o_goto W355 (pc' := 518) (hb hy at_514) (by decide) rfl ?_
          exact o_retN W355 hlk (t := .boolean) hret (by simp) (z' := (1 : Int32)) (by decide) (hb hy at_518) (by decide) (by decide) rfl
      · refine o_irem W335 (v := 2) (pc' := 341) (hb hy at_340) (by decide) ek339 rfl ?_
        refine o_istore W335 (L' := #[.val (.int p0), .val (.int p1), .val (.int p2), .val (.int p3), .val (.int 1), .val (.int 1), .val (.int (p2 &&& (255 : Int32))), .val (.ref b224), .val (.ref b232), .val (.ref b245), .val (.ref b254), .val (.ref b255), .val (.ref b263), .unset, .unset, .val (.ref b232), .val (.ref gO4), .val (.int 2), .unset]) (pc' := 343) (hb hy at_341) rfl rfl ?_
        refine o_aload W335 (pc' := 345) (hb hy at_343) rfl rfl rfl ?_
        refine o_iload W335 (pc' := 347) (hb hy at_345) rfl rfl ?_
        refine o_caload W335 c338 (x := (101 : Int32)) (i := 2) (by decide) (by decide) (by decide) rfl (pc' := 348) (hb hy at_347) rfl ?_
        refine o_istore W335 (L' := #[.val (.int p0), .val (.int p1), .val (.int p2), .val (.int p3), .val (.int 1), .val (.int 1), .val (.int (p2 &&& (255 : Int32))), .val (.ref b224), .val (.ref b232), .val (.ref b245), .val (.ref b254), .val (.ref b255), .val (.ref b263), .unset, .unset, .val (.ref b232), .val (.ref gO4), .val (.int 2), .val (.int 101)]) (pc' := 350) (hb hy at_348) rfl rfl ?_
        refine o_iload W335 (pc' := 352) (hb hy at_350) rfl rfl ?_
        refine o_ifN W335 (pc' := 355) (hb hy at_352) (XT.i0_eq_f (by decide)) rfl ?_
        refine o_aload W335 (pc' := 357) (hb hy at_355) rfl rfl rfl ?_
        refine o_iload W335 (pc' := 359) (hb hy at_357) rfl rfl ?_
        refine o_iload W335 (pc' := 361) (hb hy at_359) rfl rfl ?_
        refine o_stC W335 c338 (i := 2) (x' := (p2 &&& (255 : Int32))) (by decide) (by decide) (by decide) (Nat.lt_of_sub_eq_succ rfl) (own_i2c (own_b255 _)) (vs' := [(.int 112), (.int 114), (.int (p2 &&& (255 : Int32))), (.int 118), (.int 45), (.int 99), (.int 117), (.int 114), (.int 114), (.int 101), (.int 110), (.int 116)]) rfl gz232 (Or.inr gb232) (fun _ _ => trivial) (pc' := 362) (hb hy at_361) rfl ?_
        intro T356 h356 lo356 W356 R356 V356
        refine o_new W356 (w5 hw) (w6 hw) (w7 hw) (fun _ _ => trivial) (pc' := 365) (hb hy at_362) rfl (cells' := 7) (slots' := 49) rfl rfl (by decide) (by decide) ?_
        intro b357 T357 h357 W357 E357 ge357 gz357 gb357 A357 D357
        have Fb357_coder : Fld Z h357 b357 "java/lang/String" "coder" "B" (.int 0) := D357 (Or.inr (w31 hw)) (ty := .byte) (by decide)
        have Fb357_value : Fld Z h357 b357 "java/lang/String" "value" "[B" .null := D357 (Or.inr (w33 hw)) (ty := (.array .byte)) (by decide)
        refine o_dup W357 (pc' := 366) (hb hy at_365) rfl rfl ?_
        refine o_aload W357 (pc' := 368) (hb hy at_366) rfl rfl rfl ?_
        have c358 := (V356.ext E357)
        have ok359 : own_ok [(112 : Int32), (114 : Int32), (p2 &&& (255 : Int32)), (118 : Int32), (45 : Int32), (99 : Int32), (117 : Int32), (114 : Int32), (114 : Int32), (101 : Int32), (110 : Int32), (116 : Int32)] := ⟨by simp only [List.mem_cons, List.not_mem_nil, or_false, forall_eq_or_imp, forall_eq, false_imp_iff, implies_true]; exact ⟨(by unfold own_b; decide), (by unfold own_b; decide), (own_b255 _), (by unfold own_b; decide), (by unfold own_b; decide), (by unfold own_b; decide), (by unfold own_b; decide), (by unfold own_b; decide), (by unfold own_b; decide), (by unfold own_b; decide), (by unfold own_b; decide), (by unfold own_b; decide)⟩, Nat.le_of_ble_eq_true rfl⟩
        refine o_special W357 (y := (⟨"java/lang/String", "<init>", "([C)V"⟩ : MethodName)) rfl (w8 hw) (w9 hw) (w10 hw) (by decide) (a := b357) (argsL := [(.ref b232)]) (StrChars.Road.backV (W := 1) W357.2.2.2.1 (own_hV hw) (kI := 4) (w6 hw) (cs := [(112 : Int32), (114 : Int32), (p2 &&& (255 : Int32)), (118 : Int32), (45 : Int32), (99 : Int32), (117 : Int32), (114 : Int32), (114 : Int32), (101 : Int32), (110 : Int32), (116 : Int32)]) (bs := [((112 : Int32)).toInt8.toInt32, ((114 : Int32)).toInt8.toInt32, ((p2 &&& (255 : Int32))).toInt8.toInt32, ((118 : Int32)).toInt8.toInt32, ((45 : Int32)).toInt8.toInt32, ((99 : Int32)).toInt8.toInt32, ((117 : Int32)).toInt8.toInt32, ((114 : Int32)).toInt8.toInt32, ((114 : Int32)).toInt8.toInt32, ((101 : Int32)).toInt8.toInt32, ((110 : Int32)).toInt8.toInt32, ((116 : Int32)).toInt8.toInt32]) (n := 12) (n0 := Z.heap.size) gz357 W357.zs A357 Fb357_value Fb357_coder c358 (SgCS.ext W357.ox) NgCS rfl rfl (by decide) (by decide) ok359.1 rfl (by decide) (by decide)) (by rw [hml]; rfl) (lenOf pd0 rfl) (S := [(.ref b357)]) rfl (by exact Nat.le_of_eq rfl) (pc' := 371) (hb hy at_368) rfl (cells' := 8) (slots' := 61) rfl rfl (by decide) (by decide) (wy := [b357]) (fun _ _ _ q => ⟨q.2.1, q.2.2.1⟩) (allS ⟨gz357, (Or.inr gb357)⟩ all0) (fun _ _ => trivial) ?_
        intro v360 T360 h360 lo360 W360 K360 q360
        obtain ⟨rfl, -, -, X360, Fc360, t360, kb360, gz360, ge360, -, Fv360, A360⟩ := q360
        have B360 : Arv Z h360 t360 kb360 .byte (12 : Int32) [(.int (StrChars.lo8 (112 : Int32))), (.int (StrChars.lo8 (114 : Int32))), (.int (StrChars.lo8 (p2 &&& (255 : Int32)))), (.int (StrChars.lo8 (118 : Int32))), (.int (StrChars.lo8 (45 : Int32))), (.int (StrChars.lo8 (99 : Int32))), (.int (StrChars.lo8 (117 : Int32))), (.int (StrChars.lo8 (114 : Int32))), (.int (StrChars.lo8 (114 : Int32))), (.int (StrChars.lo8 (101 : Int32))), (.int (StrChars.lo8 (110 : Int32))), (.int (StrChars.lo8 (116 : Int32)))] (.int 0) := A360
        show Gl _ _ _ _ _ _ _ _ [(.ref b357)]
        refine o_astore W360 (L' := #[.val (.int p0), .val (.int p1), .val (.int p2), .val (.int p3), .val (.int 1), .val (.int 1), .val (.int (p2 &&& (255 : Int32))), .val (.ref b224), .val (.ref b232), .val (.ref b245), .val (.ref b254), .val (.ref b255), .val (.ref b263), .val (.ref b357), .unset, .val (.ref b232), .val (.ref gO4), .val (.int 2), .val (.int 101)]) (pc' := 373) (hb hy at_371) rfl rfl rfl ?_
        refine o_iload W360 (pc' := 375) (hb hy at_373) rfl rfl ?_
        refine o_ifN W360 (pc' := 378) (hb hy at_375) (XT.i0_eq_f (by decide)) rfl ?_
        refine o_iload W360 (pc' := 380) (hb hy at_378) rfl rfl ?_
        refine o_iload W360 (pc' := 382) (hb hy at_380) rfl rfl ?_
        rcases (Classical.em ((p2 &&& (255 : Int32)) = (101 : Int32))).symm with hq361 | hq361
        · refine o_icmpY W360 (pc' := 392) (hb hy at_382) (XT.ii_ne_t hq361) (by decide) rfl ?_
          refine o_aconstNull W360 (pc' := 393) (hb hy at_392) rfl ?_
          refine o_astore W360 (L' := #[.val (.int p0), .val (.int p1), .val (.int p2), .val (.int p3), .val (.int 1), .val (.int 1), .val (.int (p2 &&& (255 : Int32))), .val (.ref b224), .val (.ref b232), .val (.ref b245), .val (.ref b254), .val (.ref b255), .val (.ref b263), .val (.ref b357), .val .null, .val (.ref b232), .val (.ref gO4), .val (.int 2), .val (.int 101)]) (pc' := 395) (hb hy at_393) rfl rfl rfl ?_
          refine o_goto W360 (pc' := 503) (hb hy at_395) (by decide) rfl ?_
          refine o_aload W360 (pc' := 505) (hb hy at_503) rfl rfl rfl ?_
          refine o_static W360 (y := (⟨"com/example/sessn/sessn/session/Weights", "labelled", "(Ljava/lang/String;)Lcom/example/sessn/sessn/session/Weights;"⟩ : MethodName)) (w34 hw) (w35 hw) (w2 hw) (w36 hw) (by decide) (argsL := [(.ref b357)]) (CtrN.back (Wd := 0) W360 (rm9 l Z a0 hw gCS gO1 gO2 gO4 gO6 gO8 gO9 gO10 gO11 gO12 gO13 k_gO2 k_gO9 k_gO11 k_gO13 b357 t360 kb360 [(112 : Int32), (114 : Int32), (p2 &&& (255 : Int32)), (118 : Int32), (45 : Int32), (99 : Int32), (117 : Int32), (114 : Int32), (114 : Int32), (101 : Int32), (110 : Int32), (116 : Int32)] h360 W360.old SgO2__VALUES VgO2 XgO2 FitgO2 FgO1_label SgCS NgCS XgO8 FgO8_value FgO8_coder VgO9 X360 Fv360 Fc360 B360 ok359 (own_eqN (by simp)) FgO4_label XgO10 FgO10_value FgO10_coder VgO11 (own_eqN (by simp [hq361, Ne.symm hq361])) FgO6_label XgO12 FgO12_value FgO12_coder VgO13 (own_eqN (by simp))) (w36 hw) (w2 hw) (by decide) (by decide)) (by rw [hml]; rfl) (lenOf pd3 rfl) (S := []) rfl (by exact Nat.le_of_eq rfl) (pc' := 508) (hb hy at_505) rfl (cells' := 9) (slots' := 64) rfl rfl (by decide) (by decide) (wy := []) (fun _ _ _ q => ⟨q.1, q.2.1⟩) all0 (fun _ _ => trivial) ?_
          intro v362 T362 h362 lo362 W362 K362 q362
          obtain rfl := q362.2.2
          show Gl _ _ _ _ _ _ _ _ [.null]
          refine o_aload W362 (pc' := 510) (hb hy at_508) rfl rfl rfl ?_
          refine o_acmpN W362 (pc' := 513) (hb hy at_510) rfl rfl (XT.aa_ne_f rfl) rfl ?_
          refine o_iconst W362 (v := 1) (pc' := 514) (hb hy at_513) rfl rfl ?_
          refine o_goto W362 (pc' := 518) (hb hy at_514) (by decide) rfl ?_
          exact o_retN W362 hlk (t := .boolean) hret (by simp) (z' := (1 : Int32)) (by decide) (hb hy at_518) (by decide) (by decide) rfl
        · refine o_icmpN W360 (pc' := 385) (hb hy at_382) (XT.ii_ne_f hq361) rfl ?_
          refine o_aload W360 (pc' := 387) (hb hy at_385) rfl rfl rfl ?_
          refine o_astore W360 (L' := #[.val (.int p0), .val (.int p1), .val (.int p2), .val (.int p3), .val (.int 1), .val (.int 1), .val (.int (p2 &&& (255 : Int32))), .val (.ref b224), .val (.ref b232), .val (.ref b245), .val (.ref b254), .val (.ref b255), .val (.ref b263), .val (.ref b357), .val (.ref gO4), .val (.ref b232), .val (.ref gO4), .val (.int 2), .val (.int 101)]) (pc' := 389) (hb hy at_387) rfl rfl rfl ?_
          refine o_goto W360 (pc' := 395) (hb hy at_389) (by decide) rfl ?_
          refine o_goto W360 (pc' := 503) (hb hy at_395) (by decide) rfl ?_
          refine o_aload W360 (pc' := 505) (hb hy at_503) rfl rfl rfl ?_
          refine o_static W360 (y := (⟨"com/example/sessn/sessn/session/Weights", "labelled", "(Ljava/lang/String;)Lcom/example/sessn/sessn/session/Weights;"⟩ : MethodName)) (w34 hw) (w35 hw) (w2 hw) (w36 hw) (by decide) (argsL := [(.ref b357)]) (CtrN.back (Wd := 0) W360 (rm3 l Z a0 hw gCS gO1 gO2 gO4 gO6 gO8 gO9 gO10 gO11 gO12 gO13 k_gO2 k_gO9 k_gO11 k_gO13 b357 t360 kb360 [(112 : Int32), (114 : Int32), (p2 &&& (255 : Int32)), (118 : Int32), (45 : Int32), (99 : Int32), (117 : Int32), (114 : Int32), (114 : Int32), (101 : Int32), (110 : Int32), (116 : Int32)] h360 W360.old SgO2__VALUES VgO2 XgO2 FitgO2 FgO1_label SgCS NgCS XgO8 FgO8_value FgO8_coder VgO9 X360 Fv360 Fc360 B360 ok359 (own_eqN (by simp)) FgO4_label XgO10 FgO10_value FgO10_coder VgO11 (own_eqY (by simp [hq361])) FgO6_label XgO12 FgO12_value FgO12_coder VgO13 (own_eqN (by simp))) (w36 hw) (w2 hw) (by decide) (by decide)) (by rw [hml]; rfl) (lenOf pd3 rfl) (S := []) rfl (by exact Nat.le_of_eq rfl) (pc' := 508) (hb hy at_505) rfl (cells' := 9) (slots' := 64) rfl rfl (by decide) (by decide) (wy := []) (fun _ _ _ q => ⟨q.1, q.2.1⟩) all0 (fun _ _ => trivial) ?_
          intro v363 T363 h363 lo363 W363 K363 q363
          obtain rfl := q363.2.2
          show Gl _ _ _ _ _ _ _ _ [(.ref gO4)]
          refine o_aload W363 (pc' := 510) (hb hy at_508) rfl rfl rfl ?_
          refine o_acmpN W363 (pc' := 513) (hb hy at_510) rfl rfl (XT.aa_ne_f rfl) rfl ?_
          refine o_iconst W363 (v := 1) (pc' := 514) (hb hy at_513) rfl rfl ?_
          refine o_goto W363 (pc' := 518) (hb hy at_514) (by decide) rfl ?_
          exact o_retN W363 hlk (t := .boolean) hret (by simp) (z' := (1 : Int32)) (by decide) (hb hy at_518) (by decide) (by decide) rfl
      · refine o_irem W335 (v := 3) (pc' := 341) (hb hy at_340) (by decide) ek339 rfl ?_
        refine o_istore W335 (L' := #[.val (.int p0), .val (.int p1), .val (.int p2), .val (.int p3), .val (.int 1), .val (.int 1), .val (.int (p2 &&& (255 : Int32))), .val (.ref b224), .val (.ref b232), .val (.ref b245), .val (.ref b254), .val (.ref b255), .val (.ref b263), .unset, .unset, .val (.ref b232), .val (.ref gO4), .val (.int 3), .unset]) (pc' := 343) (hb hy at_341) rfl rfl ?_
        refine o_aload W335 (pc' := 345) (hb hy at_343) rfl rfl rfl ?_
        refine o_iload W335 (pc' := 347) (hb hy at_345) rfl rfl ?_
        refine o_caload W335 c338 (x := (118 : Int32)) (i := 3) (by decide) (by decide) (by decide) rfl (pc' := 348) (hb hy at_347) rfl ?_
        refine o_istore W335 (L' := #[.val (.int p0), .val (.int p1), .val (.int p2), .val (.int p3), .val (.int 1), .val (.int 1), .val (.int (p2 &&& (255 : Int32))), .val (.ref b224), .val (.ref b232), .val (.ref b245), .val (.ref b254), .val (.ref b255), .val (.ref b263), .unset, .unset, .val (.ref b232), .val (.ref gO4), .val (.int 3), .val (.int 118)]) (pc' := 350) (hb hy at_348) rfl rfl ?_
        refine o_iload W335 (pc' := 352) (hb hy at_350) rfl rfl ?_
        refine o_ifN W335 (pc' := 355) (hb hy at_352) (XT.i0_eq_f (by decide)) rfl ?_
        refine o_aload W335 (pc' := 357) (hb hy at_355) rfl rfl rfl ?_
        refine o_iload W335 (pc' := 359) (hb hy at_357) rfl rfl ?_
        refine o_iload W335 (pc' := 361) (hb hy at_359) rfl rfl ?_
        refine o_stC W335 c338 (i := 3) (x' := (p2 &&& (255 : Int32))) (by decide) (by decide) (by decide) (Nat.lt_of_sub_eq_succ rfl) (own_i2c (own_b255 _)) (vs' := [(.int 112), (.int 114), (.int 101), (.int (p2 &&& (255 : Int32))), (.int 45), (.int 99), (.int 117), (.int 114), (.int 114), (.int 101), (.int 110), (.int 116)]) rfl gz232 (Or.inr gb232) (fun _ _ => trivial) (pc' := 362) (hb hy at_361) rfl ?_
        intro T364 h364 lo364 W364 R364 V364
        refine o_new W364 (w5 hw) (w6 hw) (w7 hw) (fun _ _ => trivial) (pc' := 365) (hb hy at_362) rfl (cells' := 7) (slots' := 49) rfl rfl (by decide) (by decide) ?_
        intro b365 T365 h365 W365 E365 ge365 gz365 gb365 A365 D365
        have Fb365_coder : Fld Z h365 b365 "java/lang/String" "coder" "B" (.int 0) := D365 (Or.inr (w31 hw)) (ty := .byte) (by decide)
        have Fb365_value : Fld Z h365 b365 "java/lang/String" "value" "[B" .null := D365 (Or.inr (w33 hw)) (ty := (.array .byte)) (by decide)
        refine o_dup W365 (pc' := 366) (hb hy at_365) rfl rfl ?_
        refine o_aload W365 (pc' := 368) (hb hy at_366) rfl rfl rfl ?_
        have c366 := (V364.ext E365)
        have ok367 : own_ok [(112 : Int32), (114 : Int32), (101 : Int32), (p2 &&& (255 : Int32)), (45 : Int32), (99 : Int32), (117 : Int32), (114 : Int32), (114 : Int32), (101 : Int32), (110 : Int32), (116 : Int32)] := ⟨by simp only [List.mem_cons, List.not_mem_nil, or_false, forall_eq_or_imp, forall_eq, false_imp_iff, implies_true]; exact ⟨(by unfold own_b; decide), (by unfold own_b; decide), (by unfold own_b; decide), (own_b255 _), (by unfold own_b; decide), (by unfold own_b; decide), (by unfold own_b; decide), (by unfold own_b; decide), (by unfold own_b; decide), (by unfold own_b; decide), (by unfold own_b; decide), (by unfold own_b; decide)⟩, Nat.le_of_ble_eq_true rfl⟩
        refine o_special W365 (y := (⟨"java/lang/String", "<init>", "([C)V"⟩ : MethodName)) rfl (w8 hw) (w9 hw) (w10 hw) (by decide) (a := b365) (argsL := [(.ref b232)]) (StrChars.Road.backV (W := 1) W365.2.2.2.1 (own_hV hw) (kI := 4) (w6 hw) (cs := [(112 : Int32), (114 : Int32), (101 : Int32), (p2 &&& (255 : Int32)), (45 : Int32), (99 : Int32), (117 : Int32), (114 : Int32), (114 : Int32), (101 : Int32), (110 : Int32), (116 : Int32)]) (bs := [((112 : Int32)).toInt8.toInt32, ((114 : Int32)).toInt8.toInt32, ((101 : Int32)).toInt8.toInt32, ((p2 &&& (255 : Int32))).toInt8.toInt32, ((45 : Int32)).toInt8.toInt32, ((99 : Int32)).toInt8.toInt32, ((117 : Int32)).toInt8.toInt32, ((114 : Int32)).toInt8.toInt32, ((114 : Int32)).toInt8.toInt32, ((101 : Int32)).toInt8.toInt32, ((110 : Int32)).toInt8.toInt32, ((116 : Int32)).toInt8.toInt32]) (n := 12) (n0 := Z.heap.size) gz365 W365.zs A365 Fb365_value Fb365_coder c366 (SgCS.ext W365.ox) NgCS rfl rfl (by decide) (by decide) ok367.1 rfl (by decide) (by decide)) (by rw [hml]; rfl) (lenOf pd0 rfl) (S := [(.ref b365)]) rfl (by exact Nat.le_of_eq rfl) (pc' := 371) (hb hy at_368) rfl (cells' := 8) (slots' := 61) rfl rfl (by decide) (by decide) (wy := [b365]) (fun _ _ _ q => ⟨q.2.1, q.2.2.1⟩) (allS ⟨gz365, (Or.inr gb365)⟩ all0) (fun _ _ => trivial) ?_
        intro v368 T368 h368 lo368 W368 K368 q368
        obtain ⟨rfl, -, -, X368, Fc368, t368, kb368, gz368, ge368, -, Fv368, A368⟩ := q368
        have B368 : Arv Z h368 t368 kb368 .byte (12 : Int32) [(.int (StrChars.lo8 (112 : Int32))), (.int (StrChars.lo8 (114 : Int32))), (.int (StrChars.lo8 (101 : Int32))), (.int (StrChars.lo8 (p2 &&& (255 : Int32)))), (.int (StrChars.lo8 (45 : Int32))), (.int (StrChars.lo8 (99 : Int32))), (.int (StrChars.lo8 (117 : Int32))), (.int (StrChars.lo8 (114 : Int32))), (.int (StrChars.lo8 (114 : Int32))), (.int (StrChars.lo8 (101 : Int32))), (.int (StrChars.lo8 (110 : Int32))), (.int (StrChars.lo8 (116 : Int32)))] (.int 0) := A368
        show Gl _ _ _ _ _ _ _ _ [(.ref b365)]
        refine o_astore W368 (L' := #[.val (.int p0), .val (.int p1), .val (.int p2), .val (.int p3), .val (.int 1), .val (.int 1), .val (.int (p2 &&& (255 : Int32))), .val (.ref b224), .val (.ref b232), .val (.ref b245), .val (.ref b254), .val (.ref b255), .val (.ref b263), .val (.ref b365), .unset, .val (.ref b232), .val (.ref gO4), .val (.int 3), .val (.int 118)]) (pc' := 373) (hb hy at_371) rfl rfl rfl ?_
        refine o_iload W368 (pc' := 375) (hb hy at_373) rfl rfl ?_
        refine o_ifN W368 (pc' := 378) (hb hy at_375) (XT.i0_eq_f (by decide)) rfl ?_
        refine o_iload W368 (pc' := 380) (hb hy at_378) rfl rfl ?_
        refine o_iload W368 (pc' := 382) (hb hy at_380) rfl rfl ?_
        rcases (Classical.em ((p2 &&& (255 : Int32)) = (118 : Int32))).symm with hq369 | hq369
        · refine o_icmpY W368 (pc' := 392) (hb hy at_382) (XT.ii_ne_t hq369) (by decide) rfl ?_
          refine o_aconstNull W368 (pc' := 393) (hb hy at_392) rfl ?_
          refine o_astore W368 (L' := #[.val (.int p0), .val (.int p1), .val (.int p2), .val (.int p3), .val (.int 1), .val (.int 1), .val (.int (p2 &&& (255 : Int32))), .val (.ref b224), .val (.ref b232), .val (.ref b245), .val (.ref b254), .val (.ref b255), .val (.ref b263), .val (.ref b365), .val .null, .val (.ref b232), .val (.ref gO4), .val (.int 3), .val (.int 118)]) (pc' := 395) (hb hy at_393) rfl rfl rfl ?_
          refine o_goto W368 (pc' := 503) (hb hy at_395) (by decide) rfl ?_
          refine o_aload W368 (pc' := 505) (hb hy at_503) rfl rfl rfl ?_
          refine o_static W368 (y := (⟨"com/example/sessn/sessn/session/Weights", "labelled", "(Ljava/lang/String;)Lcom/example/sessn/sessn/session/Weights;"⟩ : MethodName)) (w34 hw) (w35 hw) (w2 hw) (w36 hw) (by decide) (argsL := [(.ref b365)]) (CtrN.back (Wd := 0) W368 (rm9 l Z a0 hw gCS gO1 gO2 gO4 gO6 gO8 gO9 gO10 gO11 gO12 gO13 k_gO2 k_gO9 k_gO11 k_gO13 b365 t368 kb368 [(112 : Int32), (114 : Int32), (101 : Int32), (p2 &&& (255 : Int32)), (45 : Int32), (99 : Int32), (117 : Int32), (114 : Int32), (114 : Int32), (101 : Int32), (110 : Int32), (116 : Int32)] h368 W368.old SgO2__VALUES VgO2 XgO2 FitgO2 FgO1_label SgCS NgCS XgO8 FgO8_value FgO8_coder VgO9 X368 Fv368 Fc368 B368 ok367 (own_eqN (by simp)) FgO4_label XgO10 FgO10_value FgO10_coder VgO11 (own_eqN (by simp [hq369, Ne.symm hq369])) FgO6_label XgO12 FgO12_value FgO12_coder VgO13 (own_eqN (by simp))) (w36 hw) (w2 hw) (by decide) (by decide)) (by rw [hml]; rfl) (lenOf pd3 rfl) (S := []) rfl (by exact Nat.le_of_eq rfl) (pc' := 508) (hb hy at_505) rfl (cells' := 9) (slots' := 64) rfl rfl (by decide) (by decide) (wy := []) (fun _ _ _ q => ⟨q.1, q.2.1⟩) all0 (fun _ _ => trivial) ?_
          intro v370 T370 h370 lo370 W370 K370 q370
          obtain rfl := q370.2.2
          show Gl _ _ _ _ _ _ _ _ [.null]
          refine o_aload W370 (pc' := 510) (hb hy at_508) rfl rfl rfl ?_
          refine o_acmpN W370 (pc' := 513) (hb hy at_510) rfl rfl (XT.aa_ne_f rfl) rfl ?_
          refine o_iconst W370 (v := 1) (pc' := 514) (hb hy at_513) rfl rfl ?_
          refine o_goto W370 (pc' := 518) (hb hy at_514) (by decide) rfl ?_
          exact o_retN W370 hlk (t := .boolean) hret (by simp) (z' := (1 : Int32)) (by decide) (hb hy at_518) (by decide) (by decide) rfl
        · refine o_icmpN W368 (pc' := 385) (hb hy at_382) (XT.ii_ne_f hq369) rfl ?_
          refine o_aload W368 (pc' := 387) (hb hy at_385) rfl rfl rfl ?_
          refine o_astore W368 (L' := #[.val (.int p0), .val (.int p1), .val (.int p2), .val (.int p3), .val (.int 1), .val (.int 1), .val (.int (p2 &&& (255 : Int32))), .val (.ref b224), .val (.ref b232), .val (.ref b245), .val (.ref b254), .val (.ref b255), .val (.ref b263), .val (.ref b365), .val (.ref gO4), .val (.ref b232), .val (.ref gO4), .val (.int 3), .val (.int 118)]) (pc' := 389) (hb hy at_387) rfl rfl rfl ?_
          refine o_goto W368 (pc' := 395) (hb hy at_389) (by decide) rfl ?_
          refine o_goto W368 (pc' := 503) (hb hy at_395) (by decide) rfl ?_
          refine o_aload W368 (pc' := 505) (hb hy at_503) rfl rfl rfl ?_
          refine o_static W368 (y := (⟨"com/example/sessn/sessn/session/Weights", "labelled", "(Ljava/lang/String;)Lcom/example/sessn/sessn/session/Weights;"⟩ : MethodName)) (w34 hw) (w35 hw) (w2 hw) (w36 hw) (by decide) (argsL := [(.ref b365)]) (CtrN.back (Wd := 0) W368 (rm3 l Z a0 hw gCS gO1 gO2 gO4 gO6 gO8 gO9 gO10 gO11 gO12 gO13 k_gO2 k_gO9 k_gO11 k_gO13 b365 t368 kb368 [(112 : Int32), (114 : Int32), (101 : Int32), (p2 &&& (255 : Int32)), (45 : Int32), (99 : Int32), (117 : Int32), (114 : Int32), (114 : Int32), (101 : Int32), (110 : Int32), (116 : Int32)] h368 W368.old SgO2__VALUES VgO2 XgO2 FitgO2 FgO1_label SgCS NgCS XgO8 FgO8_value FgO8_coder VgO9 X368 Fv368 Fc368 B368 ok367 (own_eqN (by simp)) FgO4_label XgO10 FgO10_value FgO10_coder VgO11 (own_eqY (by simp [hq369])) FgO6_label XgO12 FgO12_value FgO12_coder VgO13 (own_eqN (by simp))) (w36 hw) (w2 hw) (by decide) (by decide)) (by rw [hml]; rfl) (lenOf pd3 rfl) (S := []) rfl (by exact Nat.le_of_eq rfl) (pc' := 508) (hb hy at_505) rfl (cells' := 9) (slots' := 64) rfl rfl (by decide) (by decide) (wy := []) (fun _ _ _ q => ⟨q.1, q.2.1⟩) all0 (fun _ _ => trivial) ?_
          intro v371 T371 h371 lo371 W371 K371 q371
          obtain rfl := q371.2.2
          show Gl _ _ _ _ _ _ _ _ [(.ref gO4)]
          refine o_aload W371 (pc' := 510) (hb hy at_508) rfl rfl rfl ?_
          refine o_acmpN W371 (pc' := 513) (hb hy at_510) rfl rfl (XT.aa_ne_f rfl) rfl ?_
          refine o_iconst W371 (v := 1) (pc' := 514) (hb hy at_513) rfl rfl ?_
          refine o_goto W371 (pc' := 518) (hb hy at_514) (by decide) rfl ?_
          exact o_retN W371 hlk (t := .boolean) hret (by simp) (z' := (1 : Int32)) (by decide) (hb hy at_518) (by decide) (by decide) rfl
      · refine o_irem W335 (v := 4) (pc' := 341) (hb hy at_340) (by decide) ek339 rfl ?_
        refine o_istore W335 (L' := #[.val (.int p0), .val (.int p1), .val (.int p2), .val (.int p3), .val (.int 1), .val (.int 1), .val (.int (p2 &&& (255 : Int32))), .val (.ref b224), .val (.ref b232), .val (.ref b245), .val (.ref b254), .val (.ref b255), .val (.ref b263), .unset, .unset, .val (.ref b232), .val (.ref gO4), .val (.int 4), .unset]) (pc' := 343) (hb hy at_341) rfl rfl ?_
        refine o_aload W335 (pc' := 345) (hb hy at_343) rfl rfl rfl ?_
        refine o_iload W335 (pc' := 347) (hb hy at_345) rfl rfl ?_
        refine o_caload W335 c338 (x := (45 : Int32)) (i := 4) (by decide) (by decide) (by decide) rfl (pc' := 348) (hb hy at_347) rfl ?_
        refine o_istore W335 (L' := #[.val (.int p0), .val (.int p1), .val (.int p2), .val (.int p3), .val (.int 1), .val (.int 1), .val (.int (p2 &&& (255 : Int32))), .val (.ref b224), .val (.ref b232), .val (.ref b245), .val (.ref b254), .val (.ref b255), .val (.ref b263), .unset, .unset, .val (.ref b232), .val (.ref gO4), .val (.int 4), .val (.int 45)]) (pc' := 350) (hb hy at_348) rfl rfl ?_
        refine o_iload W335 (pc' := 352) (hb hy at_350) rfl rfl ?_
        refine o_ifN W335 (pc' := 355) (hb hy at_352) (XT.i0_eq_f (by decide)) rfl ?_
        refine o_aload W335 (pc' := 357) (hb hy at_355) rfl rfl rfl ?_
        refine o_iload W335 (pc' := 359) (hb hy at_357) rfl rfl ?_
        refine o_iload W335 (pc' := 361) (hb hy at_359) rfl rfl ?_
        refine o_stC W335 c338 (i := 4) (x' := (p2 &&& (255 : Int32))) (by decide) (by decide) (by decide) (Nat.lt_of_sub_eq_succ rfl) (own_i2c (own_b255 _)) (vs' := [(.int 112), (.int 114), (.int 101), (.int 118), (.int (p2 &&& (255 : Int32))), (.int 99), (.int 117), (.int 114), (.int 114), (.int 101), (.int 110), (.int 116)]) rfl gz232 (Or.inr gb232) (fun _ _ => trivial) (pc' := 362) (hb hy at_361) rfl ?_
        intro T372 h372 lo372 W372 R372 V372
        refine o_new W372 (w5 hw) (w6 hw) (w7 hw) (fun _ _ => trivial) (pc' := 365) (hb hy at_362) rfl (cells' := 7) (slots' := 49) rfl rfl (by decide) (by decide) ?_
        intro b373 T373 h373 W373 E373 ge373 gz373 gb373 A373 D373
        have Fb373_coder : Fld Z h373 b373 "java/lang/String" "coder" "B" (.int 0) := D373 (Or.inr (w31 hw)) (ty := .byte) (by decide)
        have Fb373_value : Fld Z h373 b373 "java/lang/String" "value" "[B" .null := D373 (Or.inr (w33 hw)) (ty := (.array .byte)) (by decide)
        refine o_dup W373 (pc' := 366) (hb hy at_365) rfl rfl ?_
        refine o_aload W373 (pc' := 368) (hb hy at_366) rfl rfl rfl ?_
        have c374 := (V372.ext E373)
        have ok375 : own_ok [(112 : Int32), (114 : Int32), (101 : Int32), (118 : Int32), (p2 &&& (255 : Int32)), (99 : Int32), (117 : Int32), (114 : Int32), (114 : Int32), (101 : Int32), (110 : Int32), (116 : Int32)] := ⟨by simp only [List.mem_cons, List.not_mem_nil, or_false, forall_eq_or_imp, forall_eq, false_imp_iff, implies_true]; exact ⟨(by unfold own_b; decide), (by unfold own_b; decide), (by unfold own_b; decide), (by unfold own_b; decide), (own_b255 _), (by unfold own_b; decide), (by unfold own_b; decide), (by unfold own_b; decide), (by unfold own_b; decide), (by unfold own_b; decide), (by unfold own_b; decide), (by unfold own_b; decide)⟩, Nat.le_of_ble_eq_true rfl⟩
        refine o_special W373 (y := (⟨"java/lang/String", "<init>", "([C)V"⟩ : MethodName)) rfl (w8 hw) (w9 hw) (w10 hw) (by decide) (a := b373) (argsL := [(.ref b232)]) (StrChars.Road.backV (W := 1) W373.2.2.2.1 (own_hV hw) (kI := 4) (w6 hw) (cs := [(112 : Int32), (114 : Int32), (101 : Int32), (118 : Int32), (p2 &&& (255 : Int32)), (99 : Int32), (117 : Int32), (114 : Int32), (114 : Int32), (101 : Int32), (110 : Int32), (116 : Int32)]) (bs := [((112 : Int32)).toInt8.toInt32, ((114 : Int32)).toInt8.toInt32, ((101 : Int32)).toInt8.toInt32, ((118 : Int32)).toInt8.toInt32, ((p2 &&& (255 : Int32))).toInt8.toInt32, ((99 : Int32)).toInt8.toInt32, ((117 : Int32)).toInt8.toInt32, ((114 : Int32)).toInt8.toInt32, ((114 : Int32)).toInt8.toInt32, ((101 : Int32)).toInt8.toInt32, ((110 : Int32)).toInt8.toInt32, ((116 : Int32)).toInt8.toInt32]) (n := 12) (n0 := Z.heap.size) gz373 W373.zs A373 Fb373_value Fb373_coder c374 (SgCS.ext W373.ox) NgCS rfl rfl (by decide) (by decide) ok375.1 rfl (by decide) (by decide)) (by rw [hml]; rfl) (lenOf pd0 rfl) (S := [(.ref b373)]) rfl (by exact Nat.le_of_eq rfl) (pc' := 371) (hb hy at_368) rfl (cells' := 8) (slots' := 61) rfl rfl (by decide) (by decide) (wy := [b373]) (fun _ _ _ q => ⟨q.2.1, q.2.2.1⟩) (allS ⟨gz373, (Or.inr gb373)⟩ all0) (fun _ _ => trivial) ?_
        intro v376 T376 h376 lo376 W376 K376 q376
        obtain ⟨rfl, -, -, X376, Fc376, t376, kb376, gz376, ge376, -, Fv376, A376⟩ := q376
        have B376 : Arv Z h376 t376 kb376 .byte (12 : Int32) [(.int (StrChars.lo8 (112 : Int32))), (.int (StrChars.lo8 (114 : Int32))), (.int (StrChars.lo8 (101 : Int32))), (.int (StrChars.lo8 (118 : Int32))), (.int (StrChars.lo8 (p2 &&& (255 : Int32)))), (.int (StrChars.lo8 (99 : Int32))), (.int (StrChars.lo8 (117 : Int32))), (.int (StrChars.lo8 (114 : Int32))), (.int (StrChars.lo8 (114 : Int32))), (.int (StrChars.lo8 (101 : Int32))), (.int (StrChars.lo8 (110 : Int32))), (.int (StrChars.lo8 (116 : Int32)))] (.int 0) := A376
        show Gl _ _ _ _ _ _ _ _ [(.ref b373)]
        refine o_astore W376 (L' := #[.val (.int p0), .val (.int p1), .val (.int p2), .val (.int p3), .val (.int 1), .val (.int 1), .val (.int (p2 &&& (255 : Int32))), .val (.ref b224), .val (.ref b232), .val (.ref b245), .val (.ref b254), .val (.ref b255), .val (.ref b263), .val (.ref b373), .unset, .val (.ref b232), .val (.ref gO4), .val (.int 4), .val (.int 45)]) (pc' := 373) (hb hy at_371) rfl rfl rfl ?_
        refine o_iload W376 (pc' := 375) (hb hy at_373) rfl rfl ?_
        refine o_ifN W376 (pc' := 378) (hb hy at_375) (XT.i0_eq_f (by decide)) rfl ?_
        refine o_iload W376 (pc' := 380) (hb hy at_378) rfl rfl ?_
        refine o_iload W376 (pc' := 382) (hb hy at_380) rfl rfl ?_
        rcases (Classical.em ((p2 &&& (255 : Int32)) = (45 : Int32))).symm with hq377 | hq377
        · refine o_icmpY W376 (pc' := 392) (hb hy at_382) (XT.ii_ne_t hq377) (by decide) rfl ?_
          refine o_aconstNull W376 (pc' := 393) (hb hy at_392) rfl ?_
          refine o_astore W376 (L' := #[.val (.int p0), .val (.int p1), .val (.int p2), .val (.int p3), .val (.int 1), .val (.int 1), .val (.int (p2 &&& (255 : Int32))), .val (.ref b224), .val (.ref b232), .val (.ref b245), .val (.ref b254), .val (.ref b255), .val (.ref b263), .val (.ref b373), .val .null, .val (.ref b232), .val (.ref gO4), .val (.int 4), .val (.int 45)]) (pc' := 395) (hb hy at_393) rfl rfl rfl ?_
          refine o_goto W376 (pc' := 503) (hb hy at_395) (by decide) rfl ?_
          refine o_aload W376 (pc' := 505) (hb hy at_503) rfl rfl rfl ?_
          refine o_static W376 (y := (⟨"com/example/sessn/sessn/session/Weights", "labelled", "(Ljava/lang/String;)Lcom/example/sessn/sessn/session/Weights;"⟩ : MethodName)) (w34 hw) (w35 hw) (w2 hw) (w36 hw) (by decide) (argsL := [(.ref b373)]) (CtrN.back (Wd := 0) W376 (rm9 l Z a0 hw gCS gO1 gO2 gO4 gO6 gO8 gO9 gO10 gO11 gO12 gO13 k_gO2 k_gO9 k_gO11 k_gO13 b373 t376 kb376 [(112 : Int32), (114 : Int32), (101 : Int32), (118 : Int32), (p2 &&& (255 : Int32)), (99 : Int32), (117 : Int32), (114 : Int32), (114 : Int32), (101 : Int32), (110 : Int32), (116 : Int32)] h376 W376.old SgO2__VALUES VgO2 XgO2 FitgO2 FgO1_label SgCS NgCS XgO8 FgO8_value FgO8_coder VgO9 X376 Fv376 Fc376 B376 ok375 (own_eqN (by simp)) FgO4_label XgO10 FgO10_value FgO10_coder VgO11 (own_eqN (by simp [hq377, Ne.symm hq377])) FgO6_label XgO12 FgO12_value FgO12_coder VgO13 (own_eqN (by simp))) (w36 hw) (w2 hw) (by decide) (by decide)) (by rw [hml]; rfl) (lenOf pd3 rfl) (S := []) rfl (by exact Nat.le_of_eq rfl) (pc' := 508) (hb hy at_505) rfl (cells' := 9) (slots' := 64) rfl rfl (by decide) (by decide) (wy := []) (fun _ _ _ q => ⟨q.1, q.2.1⟩) all0 (fun _ _ => trivial) ?_
          intro v378 T378 h378 lo378 W378 K378 q378
          obtain rfl := q378.2.2
          show Gl _ _ _ _ _ _ _ _ [.null]
          refine o_aload W378 (pc' := 510) (hb hy at_508) rfl rfl rfl ?_
          refine o_acmpN W378 (pc' := 513) (hb hy at_510) rfl rfl (XT.aa_ne_f rfl) rfl ?_
          refine o_iconst W378 (v := 1) (pc' := 514) (hb hy at_513) rfl rfl ?_
          refine o_goto W378 (pc' := 518) (hb hy at_514) (by decide) rfl ?_
          exact o_retN W378 hlk (t := .boolean) hret (by simp) (z' := (1 : Int32)) (by decide) (hb hy at_518) (by decide) (by decide) rfl
        · refine o_icmpN W376 (pc' := 385) (hb hy at_382) (XT.ii_ne_f hq377) rfl ?_
          refine o_aload W376 (pc' := 387) (hb hy at_385) rfl rfl rfl ?_
          refine o_astore W376 (L' := #[.val (.int p0), .val (.int p1), .val (.int p2), .val (.int p3), .val (.int 1), .val (.int 1), .val (.int (p2 &&& (255 : Int32))), .val (.ref b224), .val (.ref b232), .val (.ref b245), .val (.ref b254), .val (.ref b255), .val (.ref b263), .val (.ref b373), .val (.ref gO4), .val (.ref b232), .val (.ref gO4), .val (.int 4), .val (.int 45)]) (pc' := 389) (hb hy at_387) rfl rfl rfl ?_
          refine o_goto W376 (pc' := 395) (hb hy at_389) (by decide) rfl ?_
          refine o_goto W376 (pc' := 503) (hb hy at_395) (by decide) rfl ?_
          refine o_aload W376 (pc' := 505) (hb hy at_503) rfl rfl rfl ?_
          refine o_static W376 (y := (⟨"com/example/sessn/sessn/session/Weights", "labelled", "(Ljava/lang/String;)Lcom/example/sessn/sessn/session/Weights;"⟩ : MethodName)) (w34 hw) (w35 hw) (w2 hw) (w36 hw) (by decide) (argsL := [(.ref b373)]) (CtrN.back (Wd := 0) W376 (rm3 l Z a0 hw gCS gO1 gO2 gO4 gO6 gO8 gO9 gO10 gO11 gO12 gO13 k_gO2 k_gO9 k_gO11 k_gO13 b373 t376 kb376 [(112 : Int32), (114 : Int32), (101 : Int32), (118 : Int32), (p2 &&& (255 : Int32)), (99 : Int32), (117 : Int32), (114 : Int32), (114 : Int32), (101 : Int32), (110 : Int32), (116 : Int32)] h376 W376.old SgO2__VALUES VgO2 XgO2 FitgO2 FgO1_label SgCS NgCS XgO8 FgO8_value FgO8_coder VgO9 X376 Fv376 Fc376 B376 ok375 (own_eqN (by simp)) FgO4_label XgO10 FgO10_value FgO10_coder VgO11 (own_eqY (by simp [hq377])) FgO6_label XgO12 FgO12_value FgO12_coder VgO13 (own_eqN (by simp))) (w36 hw) (w2 hw) (by decide) (by decide)) (by rw [hml]; rfl) (lenOf pd3 rfl) (S := []) rfl (by exact Nat.le_of_eq rfl) (pc' := 508) (hb hy at_505) rfl (cells' := 9) (slots' := 64) rfl rfl (by decide) (by decide) (wy := []) (fun _ _ _ q => ⟨q.1, q.2.1⟩) all0 (fun _ _ => trivial) ?_
          intro v379 T379 h379 lo379 W379 K379 q379
          obtain rfl := q379.2.2
          show Gl _ _ _ _ _ _ _ _ [(.ref gO4)]
          refine o_aload W379 (pc' := 510) (hb hy at_508) rfl rfl rfl ?_
          refine o_acmpN W379 (pc' := 513) (hb hy at_510) rfl rfl (XT.aa_ne_f rfl) rfl ?_
          refine o_iconst W379 (v := 1) (pc' := 514) (hb hy at_513) rfl rfl ?_
          refine o_goto W379 (pc' := 518) (hb hy at_514) (by decide) rfl ?_
          exact o_retN W379 hlk (t := .boolean) hret (by simp) (z' := (1 : Int32)) (by decide) (hb hy at_518) (by decide) (by decide) rfl
      · refine o_irem W335 (v := 5) (pc' := 341) (hb hy at_340) (by decide) ek339 rfl ?_
        refine o_istore W335 (L' := #[.val (.int p0), .val (.int p1), .val (.int p2), .val (.int p3), .val (.int 1), .val (.int 1), .val (.int (p2 &&& (255 : Int32))), .val (.ref b224), .val (.ref b232), .val (.ref b245), .val (.ref b254), .val (.ref b255), .val (.ref b263), .unset, .unset, .val (.ref b232), .val (.ref gO4), .val (.int 5), .unset]) (pc' := 343) (hb hy at_341) rfl rfl ?_
        refine o_aload W335 (pc' := 345) (hb hy at_343) rfl rfl rfl ?_
        refine o_iload W335 (pc' := 347) (hb hy at_345) rfl rfl ?_
        refine o_caload W335 c338 (x := (99 : Int32)) (i := 5) (by decide) (by decide) (by decide) rfl (pc' := 348) (hb hy at_347) rfl ?_
        refine o_istore W335 (L' := #[.val (.int p0), .val (.int p1), .val (.int p2), .val (.int p3), .val (.int 1), .val (.int 1), .val (.int (p2 &&& (255 : Int32))), .val (.ref b224), .val (.ref b232), .val (.ref b245), .val (.ref b254), .val (.ref b255), .val (.ref b263), .unset, .unset, .val (.ref b232), .val (.ref gO4), .val (.int 5), .val (.int 99)]) (pc' := 350) (hb hy at_348) rfl rfl ?_
        refine o_iload W335 (pc' := 352) (hb hy at_350) rfl rfl ?_
        refine o_ifN W335 (pc' := 355) (hb hy at_352) (XT.i0_eq_f (by decide)) rfl ?_
        refine o_aload W335 (pc' := 357) (hb hy at_355) rfl rfl rfl ?_
        refine o_iload W335 (pc' := 359) (hb hy at_357) rfl rfl ?_
        refine o_iload W335 (pc' := 361) (hb hy at_359) rfl rfl ?_
        refine o_stC W335 c338 (i := 5) (x' := (p2 &&& (255 : Int32))) (by decide) (by decide) (by decide) (Nat.lt_of_sub_eq_succ rfl) (own_i2c (own_b255 _)) (vs' := [(.int 112), (.int 114), (.int 101), (.int 118), (.int 45), (.int (p2 &&& (255 : Int32))), (.int 117), (.int 114), (.int 114), (.int 101), (.int 110), (.int 116)]) rfl gz232 (Or.inr gb232) (fun _ _ => trivial) (pc' := 362) (hb hy at_361) rfl ?_
        intro T380 h380 lo380 W380 R380 V380
        refine o_new W380 (w5 hw) (w6 hw) (w7 hw) (fun _ _ => trivial) (pc' := 365) (hb hy at_362) rfl (cells' := 7) (slots' := 49) rfl rfl (by decide) (by decide) ?_
        intro b381 T381 h381 W381 E381 ge381 gz381 gb381 A381 D381
        have Fb381_coder : Fld Z h381 b381 "java/lang/String" "coder" "B" (.int 0) := D381 (Or.inr (w31 hw)) (ty := .byte) (by decide)
        have Fb381_value : Fld Z h381 b381 "java/lang/String" "value" "[B" .null := D381 (Or.inr (w33 hw)) (ty := (.array .byte)) (by decide)
        refine o_dup W381 (pc' := 366) (hb hy at_365) rfl rfl ?_
        refine o_aload W381 (pc' := 368) (hb hy at_366) rfl rfl rfl ?_
        have c382 := (V380.ext E381)
        have ok383 : own_ok [(112 : Int32), (114 : Int32), (101 : Int32), (118 : Int32), (45 : Int32), (p2 &&& (255 : Int32)), (117 : Int32), (114 : Int32), (114 : Int32), (101 : Int32), (110 : Int32), (116 : Int32)] := ⟨by simp only [List.mem_cons, List.not_mem_nil, or_false, forall_eq_or_imp, forall_eq, false_imp_iff, implies_true]; exact ⟨(by unfold own_b; decide), (by unfold own_b; decide), (by unfold own_b; decide), (by unfold own_b; decide), (by unfold own_b; decide), (own_b255 _), (by unfold own_b; decide), (by unfold own_b; decide), (by unfold own_b; decide), (by unfold own_b; decide), (by unfold own_b; decide), (by unfold own_b; decide)⟩, Nat.le_of_ble_eq_true rfl⟩
        refine o_special W381 (y := (⟨"java/lang/String", "<init>", "([C)V"⟩ : MethodName)) rfl (w8 hw) (w9 hw) (w10 hw) (by decide) (a := b381) (argsL := [(.ref b232)]) (StrChars.Road.backV (W := 1) W381.2.2.2.1 (own_hV hw) (kI := 4) (w6 hw) (cs := [(112 : Int32), (114 : Int32), (101 : Int32), (118 : Int32), (45 : Int32), (p2 &&& (255 : Int32)), (117 : Int32), (114 : Int32), (114 : Int32), (101 : Int32), (110 : Int32), (116 : Int32)]) (bs := [((112 : Int32)).toInt8.toInt32, ((114 : Int32)).toInt8.toInt32, ((101 : Int32)).toInt8.toInt32, ((118 : Int32)).toInt8.toInt32, ((45 : Int32)).toInt8.toInt32, ((p2 &&& (255 : Int32))).toInt8.toInt32, ((117 : Int32)).toInt8.toInt32, ((114 : Int32)).toInt8.toInt32, ((114 : Int32)).toInt8.toInt32, ((101 : Int32)).toInt8.toInt32, ((110 : Int32)).toInt8.toInt32, ((116 : Int32)).toInt8.toInt32]) (n := 12) (n0 := Z.heap.size) gz381 W381.zs A381 Fb381_value Fb381_coder c382 (SgCS.ext W381.ox) NgCS rfl rfl (by decide) (by decide) ok383.1 rfl (by decide) (by decide)) (by rw [hml]; rfl) (lenOf pd0 rfl) (S := [(.ref b381)]) rfl (by exact Nat.le_of_eq rfl) (pc' := 371) (hb hy at_368) rfl (cells' := 8) (slots' := 61) rfl rfl (by decide) (by decide) (wy := [b381]) (fun _ _ _ q => ⟨q.2.1, q.2.2.1⟩) (allS ⟨gz381, (Or.inr gb381)⟩ all0) (fun _ _ => trivial) ?_
        intro v384 T384 h384 lo384 W384 K384 q384
        obtain ⟨rfl, -, -, X384, Fc384, t384, kb384, gz384, ge384, -, Fv384, A384⟩ := q384
        have B384 : Arv Z h384 t384 kb384 .byte (12 : Int32) [(.int (StrChars.lo8 (112 : Int32))), (.int (StrChars.lo8 (114 : Int32))), (.int (StrChars.lo8 (101 : Int32))), (.int (StrChars.lo8 (118 : Int32))), (.int (StrChars.lo8 (45 : Int32))), (.int (StrChars.lo8 (p2 &&& (255 : Int32)))), (.int (StrChars.lo8 (117 : Int32))), (.int (StrChars.lo8 (114 : Int32))), (.int (StrChars.lo8 (114 : Int32))), (.int (StrChars.lo8 (101 : Int32))), (.int (StrChars.lo8 (110 : Int32))), (.int (StrChars.lo8 (116 : Int32)))] (.int 0) := A384
        show Gl _ _ _ _ _ _ _ _ [(.ref b381)]
        refine o_astore W384 (L' := #[.val (.int p0), .val (.int p1), .val (.int p2), .val (.int p3), .val (.int 1), .val (.int 1), .val (.int (p2 &&& (255 : Int32))), .val (.ref b224), .val (.ref b232), .val (.ref b245), .val (.ref b254), .val (.ref b255), .val (.ref b263), .val (.ref b381), .unset, .val (.ref b232), .val (.ref gO4), .val (.int 5), .val (.int 99)]) (pc' := 373) (hb hy at_371) rfl rfl rfl ?_
        refine o_iload W384 (pc' := 375) (hb hy at_373) rfl rfl ?_
        refine o_ifN W384 (pc' := 378) (hb hy at_375) (XT.i0_eq_f (by decide)) rfl ?_
        refine o_iload W384 (pc' := 380) (hb hy at_378) rfl rfl ?_
        refine o_iload W384 (pc' := 382) (hb hy at_380) rfl rfl ?_
        rcases (Classical.em ((p2 &&& (255 : Int32)) = (99 : Int32))).symm with hq385 | hq385
        · refine o_icmpY W384 (pc' := 392) (hb hy at_382) (XT.ii_ne_t hq385) (by decide) rfl ?_
          refine o_aconstNull W384 (pc' := 393) (hb hy at_392) rfl ?_
          refine o_astore W384 (L' := #[.val (.int p0), .val (.int p1), .val (.int p2), .val (.int p3), .val (.int 1), .val (.int 1), .val (.int (p2 &&& (255 : Int32))), .val (.ref b224), .val (.ref b232), .val (.ref b245), .val (.ref b254), .val (.ref b255), .val (.ref b263), .val (.ref b381), .val .null, .val (.ref b232), .val (.ref gO4), .val (.int 5), .val (.int 99)]) (pc' := 395) (hb hy at_393) rfl rfl rfl ?_
          refine o_goto W384 (pc' := 503) (hb hy at_395) (by decide) rfl ?_
          refine o_aload W384 (pc' := 505) (hb hy at_503) rfl rfl rfl ?_
          refine o_static W384 (y := (⟨"com/example/sessn/sessn/session/Weights", "labelled", "(Ljava/lang/String;)Lcom/example/sessn/sessn/session/Weights;"⟩ : MethodName)) (w34 hw) (w35 hw) (w2 hw) (w36 hw) (by decide) (argsL := [(.ref b381)]) (CtrN.back (Wd := 0) W384 (rm9 l Z a0 hw gCS gO1 gO2 gO4 gO6 gO8 gO9 gO10 gO11 gO12 gO13 k_gO2 k_gO9 k_gO11 k_gO13 b381 t384 kb384 [(112 : Int32), (114 : Int32), (101 : Int32), (118 : Int32), (45 : Int32), (p2 &&& (255 : Int32)), (117 : Int32), (114 : Int32), (114 : Int32), (101 : Int32), (110 : Int32), (116 : Int32)] h384 W384.old SgO2__VALUES VgO2 XgO2 FitgO2 FgO1_label SgCS NgCS XgO8 FgO8_value FgO8_coder VgO9 X384 Fv384 Fc384 B384 ok383 (own_eqN (by simp)) FgO4_label XgO10 FgO10_value FgO10_coder VgO11 (own_eqN (by simp [hq385, Ne.symm hq385])) FgO6_label XgO12 FgO12_value FgO12_coder VgO13 (own_eqN (by simp))) (w36 hw) (w2 hw) (by decide) (by decide)) (by rw [hml]; rfl) (lenOf pd3 rfl) (S := []) rfl (by exact Nat.le_of_eq rfl) (pc' := 508) (hb hy at_505) rfl (cells' := 9) (slots' := 64) rfl rfl (by decide) (by decide) (wy := []) (fun _ _ _ q => ⟨q.1, q.2.1⟩) all0 (fun _ _ => trivial) ?_
          intro v386 T386 h386 lo386 W386 K386 q386
          obtain rfl := q386.2.2
          show Gl _ _ _ _ _ _ _ _ [.null]
          refine o_aload W386 (pc' := 510) (hb hy at_508) rfl rfl rfl ?_
          refine o_acmpN W386 (pc' := 513) (hb hy at_510) rfl rfl (XT.aa_ne_f rfl) rfl ?_
          refine o_iconst W386 (v := 1) (pc' := 514) (hb hy at_513) rfl rfl ?_
          refine o_goto W386 (pc' := 518) (hb hy at_514) (by decide) rfl ?_
          exact o_retN W386 hlk (t := .boolean) hret (by simp) (z' := (1 : Int32)) (by decide) (hb hy at_518) (by decide) (by decide) rfl
        · refine o_icmpN W384 (pc' := 385) (hb hy at_382) (XT.ii_ne_f hq385) rfl ?_
          refine o_aload W384 (pc' := 387) (hb hy at_385) rfl rfl rfl ?_
          refine o_astore W384 (L' := #[.val (.int p0), .val (.int p1), .val (.int p2), .val (.int p3), .val (.int 1), .val (.int 1), .val (.int (p2 &&& (255 : Int32))), .val (.ref b224), .val (.ref b232), .val (.ref b245), .val (.ref b254), .val (.ref b255), .val (.ref b263), .val (.ref b381), .val (.ref gO4), .val (.ref b232), .val (.ref gO4), .val (.int 5), .val (.int 99)]) (pc' := 389) (hb hy at_387) rfl rfl rfl ?_
          refine o_goto W384 (pc' := 395) (hb hy at_389) (by decide) rfl ?_
          refine o_goto W384 (pc' := 503) (hb hy at_395) (by decide) rfl ?_
          refine o_aload W384 (pc' := 505) (hb hy at_503) rfl rfl rfl ?_
          refine o_static W384 (y := (⟨"com/example/sessn/sessn/session/Weights", "labelled", "(Ljava/lang/String;)Lcom/example/sessn/sessn/session/Weights;"⟩ : MethodName)) (w34 hw) (w35 hw) (w2 hw) (w36 hw) (by decide) (argsL := [(.ref b381)]) (CtrN.back (Wd := 0) W384 (rm3 l Z a0 hw gCS gO1 gO2 gO4 gO6 gO8 gO9 gO10 gO11 gO12 gO13 k_gO2 k_gO9 k_gO11 k_gO13 b381 t384 kb384 [(112 : Int32), (114 : Int32), (101 : Int32), (118 : Int32), (45 : Int32), (p2 &&& (255 : Int32)), (117 : Int32), (114 : Int32), (114 : Int32), (101 : Int32), (110 : Int32), (116 : Int32)] h384 W384.old SgO2__VALUES VgO2 XgO2 FitgO2 FgO1_label SgCS NgCS XgO8 FgO8_value FgO8_coder VgO9 X384 Fv384 Fc384 B384 ok383 (own_eqN (by simp)) FgO4_label XgO10 FgO10_value FgO10_coder VgO11 (own_eqY (by simp [hq385])) FgO6_label XgO12 FgO12_value FgO12_coder VgO13 (own_eqN (by simp))) (w36 hw) (w2 hw) (by decide) (by decide)) (by rw [hml]; rfl) (lenOf pd3 rfl) (S := []) rfl (by exact Nat.le_of_eq rfl) (pc' := 508) (hb hy at_505) rfl (cells' := 9) (slots' := 64) rfl rfl (by decide) (by decide) (wy := []) (fun _ _ _ q => ⟨q.1, q.2.1⟩) all0 (fun _ _ => trivial) ?_
          intro v387 T387 h387 lo387 W387 K387 q387
          obtain rfl := q387.2.2
          show Gl _ _ _ _ _ _ _ _ [(.ref gO4)]
          refine o_aload W387 (pc' := 510) (hb hy at_508) rfl rfl rfl ?_
          refine o_acmpN W387 (pc' := 513) (hb hy at_510) rfl rfl (XT.aa_ne_f rfl) rfl ?_
          refine o_iconst W387 (v := 1) (pc' := 514) (hb hy at_513) rfl rfl ?_
          refine o_goto W387 (pc' := 518) (hb hy at_514) (by decide) rfl ?_
          exact o_retN W387 hlk (t := .boolean) hret (by simp) (z' := (1 : Int32)) (by decide) (hb hy at_518) (by decide) (by decide) rfl
      · refine o_irem W335 (v := 6) (pc' := 341) (hb hy at_340) (by decide) ek339 rfl ?_
        refine o_istore W335 (L' := #[.val (.int p0), .val (.int p1), .val (.int p2), .val (.int p3), .val (.int 1), .val (.int 1), .val (.int (p2 &&& (255 : Int32))), .val (.ref b224), .val (.ref b232), .val (.ref b245), .val (.ref b254), .val (.ref b255), .val (.ref b263), .unset, .unset, .val (.ref b232), .val (.ref gO4), .val (.int 6), .unset]) (pc' := 343) (hb hy at_341) rfl rfl ?_
        refine o_aload W335 (pc' := 345) (hb hy at_343) rfl rfl rfl ?_
        refine o_iload W335 (pc' := 347) (hb hy at_345) rfl rfl ?_
        refine o_caload W335 c338 (x := (117 : Int32)) (i := 6) (by decide) (by decide) (by decide) rfl (pc' := 348) (hb hy at_347) rfl ?_
        refine o_istore W335 (L' := #[.val (.int p0), .val (.int p1), .val (.int p2), .val (.int p3), .val (.int 1), .val (.int 1), .val (.int (p2 &&& (255 : Int32))), .val (.ref b224), .val (.ref b232), .val (.ref b245), .val (.ref b254), .val (.ref b255), .val (.ref b263), .unset, .unset, .val (.ref b232), .val (.ref gO4), .val (.int 6), .val (.int 117)]) (pc' := 350) (hb hy at_348) rfl rfl ?_
        refine o_iload W335 (pc' := 352) (hb hy at_350) rfl rfl ?_
        refine o_ifN W335 (pc' := 355) (hb hy at_352) (XT.i0_eq_f (by decide)) rfl ?_
        refine o_aload W335 (pc' := 357) (hb hy at_355) rfl rfl rfl ?_
        refine o_iload W335 (pc' := 359) (hb hy at_357) rfl rfl ?_
        refine o_iload W335 (pc' := 361) (hb hy at_359) rfl rfl ?_
        refine o_stC W335 c338 (i := 6) (x' := (p2 &&& (255 : Int32))) (by decide) (by decide) (by decide) (Nat.lt_of_sub_eq_succ rfl) (own_i2c (own_b255 _)) (vs' := [(.int 112), (.int 114), (.int 101), (.int 118), (.int 45), (.int 99), (.int (p2 &&& (255 : Int32))), (.int 114), (.int 114), (.int 101), (.int 110), (.int 116)]) rfl gz232 (Or.inr gb232) (fun _ _ => trivial) (pc' := 362) (hb hy at_361) rfl ?_
        intro T388 h388 lo388 W388 R388 V388
        refine o_new W388 (w5 hw) (w6 hw) (w7 hw) (fun _ _ => trivial) (pc' := 365) (hb hy at_362) rfl (cells' := 7) (slots' := 49) rfl rfl (by decide) (by decide) ?_
        intro b389 T389 h389 W389 E389 ge389 gz389 gb389 A389 D389
        have Fb389_coder : Fld Z h389 b389 "java/lang/String" "coder" "B" (.int 0) := D389 (Or.inr (w31 hw)) (ty := .byte) (by decide)
        have Fb389_value : Fld Z h389 b389 "java/lang/String" "value" "[B" .null := D389 (Or.inr (w33 hw)) (ty := (.array .byte)) (by decide)
        refine o_dup W389 (pc' := 366) (hb hy at_365) rfl rfl ?_
        refine o_aload W389 (pc' := 368) (hb hy at_366) rfl rfl rfl ?_
        have c390 := (V388.ext E389)
        have ok391 : own_ok [(112 : Int32), (114 : Int32), (101 : Int32), (118 : Int32), (45 : Int32), (99 : Int32), (p2 &&& (255 : Int32)), (114 : Int32), (114 : Int32), (101 : Int32), (110 : Int32), (116 : Int32)] := ⟨by simp only [List.mem_cons, List.not_mem_nil, or_false, forall_eq_or_imp, forall_eq, false_imp_iff, implies_true]; exact ⟨(by unfold own_b; decide), (by unfold own_b; decide), (by unfold own_b; decide), (by unfold own_b; decide), (by unfold own_b; decide), (by unfold own_b; decide), (own_b255 _), (by unfold own_b; decide), (by unfold own_b; decide), (by unfold own_b; decide), (by unfold own_b; decide), (by unfold own_b; decide)⟩, Nat.le_of_ble_eq_true rfl⟩
        refine o_special W389 (y := (⟨"java/lang/String", "<init>", "([C)V"⟩ : MethodName)) rfl (w8 hw) (w9 hw) (w10 hw) (by decide) (a := b389) (argsL := [(.ref b232)]) (StrChars.Road.backV (W := 1) W389.2.2.2.1 (own_hV hw) (kI := 4) (w6 hw) (cs := [(112 : Int32), (114 : Int32), (101 : Int32), (118 : Int32), (45 : Int32), (99 : Int32), (p2 &&& (255 : Int32)), (114 : Int32), (114 : Int32), (101 : Int32), (110 : Int32), (116 : Int32)]) (bs := [((112 : Int32)).toInt8.toInt32, ((114 : Int32)).toInt8.toInt32, ((101 : Int32)).toInt8.toInt32, ((118 : Int32)).toInt8.toInt32, ((45 : Int32)).toInt8.toInt32, ((99 : Int32)).toInt8.toInt32, ((p2 &&& (255 : Int32))).toInt8.toInt32, ((114 : Int32)).toInt8.toInt32, ((114 : Int32)).toInt8.toInt32, ((101 : Int32)).toInt8.toInt32, ((110 : Int32)).toInt8.toInt32, ((116 : Int32)).toInt8.toInt32]) (n := 12) (n0 := Z.heap.size) gz389 W389.zs A389 Fb389_value Fb389_coder c390 (SgCS.ext W389.ox) NgCS rfl rfl (by decide) (by decide) ok391.1 rfl (by decide) (by decide)) (by rw [hml]; rfl) (lenOf pd0 rfl) (S := [(.ref b389)]) rfl (by exact Nat.le_of_eq rfl) (pc' := 371) (hb hy at_368) rfl (cells' := 8) (slots' := 61) rfl rfl (by decide) (by decide) (wy := [b389]) (fun _ _ _ q => ⟨q.2.1, q.2.2.1⟩) (allS ⟨gz389, (Or.inr gb389)⟩ all0) (fun _ _ => trivial) ?_
        intro v392 T392 h392 lo392 W392 K392 q392
        obtain ⟨rfl, -, -, X392, Fc392, t392, kb392, gz392, ge392, -, Fv392, A392⟩ := q392
        have B392 : Arv Z h392 t392 kb392 .byte (12 : Int32) [(.int (StrChars.lo8 (112 : Int32))), (.int (StrChars.lo8 (114 : Int32))), (.int (StrChars.lo8 (101 : Int32))), (.int (StrChars.lo8 (118 : Int32))), (.int (StrChars.lo8 (45 : Int32))), (.int (StrChars.lo8 (99 : Int32))), (.int (StrChars.lo8 (p2 &&& (255 : Int32)))), (.int (StrChars.lo8 (114 : Int32))), (.int (StrChars.lo8 (114 : Int32))), (.int (StrChars.lo8 (101 : Int32))), (.int (StrChars.lo8 (110 : Int32))), (.int (StrChars.lo8 (116 : Int32)))] (.int 0) := A392
        show Gl _ _ _ _ _ _ _ _ [(.ref b389)]
        refine o_astore W392 (L' := #[.val (.int p0), .val (.int p1), .val (.int p2), .val (.int p3), .val (.int 1), .val (.int 1), .val (.int (p2 &&& (255 : Int32))), .val (.ref b224), .val (.ref b232), .val (.ref b245), .val (.ref b254), .val (.ref b255), .val (.ref b263), .val (.ref b389), .unset, .val (.ref b232), .val (.ref gO4), .val (.int 6), .val (.int 117)]) (pc' := 373) (hb hy at_371) rfl rfl rfl ?_
        refine o_iload W392 (pc' := 375) (hb hy at_373) rfl rfl ?_
        refine o_ifN W392 (pc' := 378) (hb hy at_375) (XT.i0_eq_f (by decide)) rfl ?_
        refine o_iload W392 (pc' := 380) (hb hy at_378) rfl rfl ?_
        refine o_iload W392 (pc' := 382) (hb hy at_380) rfl rfl ?_
        rcases (Classical.em ((p2 &&& (255 : Int32)) = (117 : Int32))).symm with hq393 | hq393
        · refine o_icmpY W392 (pc' := 392) (hb hy at_382) (XT.ii_ne_t hq393) (by decide) rfl ?_
          refine o_aconstNull W392 (pc' := 393) (hb hy at_392) rfl ?_
          refine o_astore W392 (L' := #[.val (.int p0), .val (.int p1), .val (.int p2), .val (.int p3), .val (.int 1), .val (.int 1), .val (.int (p2 &&& (255 : Int32))), .val (.ref b224), .val (.ref b232), .val (.ref b245), .val (.ref b254), .val (.ref b255), .val (.ref b263), .val (.ref b389), .val .null, .val (.ref b232), .val (.ref gO4), .val (.int 6), .val (.int 117)]) (pc' := 395) (hb hy at_393) rfl rfl rfl ?_
          refine o_goto W392 (pc' := 503) (hb hy at_395) (by decide) rfl ?_
          refine o_aload W392 (pc' := 505) (hb hy at_503) rfl rfl rfl ?_
          refine o_static W392 (y := (⟨"com/example/sessn/sessn/session/Weights", "labelled", "(Ljava/lang/String;)Lcom/example/sessn/sessn/session/Weights;"⟩ : MethodName)) (w34 hw) (w35 hw) (w2 hw) (w36 hw) (by decide) (argsL := [(.ref b389)]) (CtrN.back (Wd := 0) W392 (rm9 l Z a0 hw gCS gO1 gO2 gO4 gO6 gO8 gO9 gO10 gO11 gO12 gO13 k_gO2 k_gO9 k_gO11 k_gO13 b389 t392 kb392 [(112 : Int32), (114 : Int32), (101 : Int32), (118 : Int32), (45 : Int32), (99 : Int32), (p2 &&& (255 : Int32)), (114 : Int32), (114 : Int32), (101 : Int32), (110 : Int32), (116 : Int32)] h392 W392.old SgO2__VALUES VgO2 XgO2 FitgO2 FgO1_label SgCS NgCS XgO8 FgO8_value FgO8_coder VgO9 X392 Fv392 Fc392 B392 ok391 (own_eqN (by simp)) FgO4_label XgO10 FgO10_value FgO10_coder VgO11 (own_eqN (by simp [hq393, Ne.symm hq393])) FgO6_label XgO12 FgO12_value FgO12_coder VgO13 (own_eqN (by simp))) (w36 hw) (w2 hw) (by decide) (by decide)) (by rw [hml]; rfl) (lenOf pd3 rfl) (S := []) rfl (by exact Nat.le_of_eq rfl) (pc' := 508) (hb hy at_505) rfl (cells' := 9) (slots' := 64) rfl rfl (by decide) (by decide) (wy := []) (fun _ _ _ q => ⟨q.1, q.2.1⟩) all0 (fun _ _ => trivial) ?_
          intro v394 T394 h394 lo394 W394 K394 q394
          obtain rfl := q394.2.2
          show Gl _ _ _ _ _ _ _ _ [.null]
          refine o_aload W394 (pc' := 510) (hb hy at_508) rfl rfl rfl ?_
          refine o_acmpN W394 (pc' := 513) (hb hy at_510) rfl rfl (XT.aa_ne_f rfl) rfl ?_
          refine o_iconst W394 (v := 1) (pc' := 514) (hb hy at_513) rfl rfl ?_
          refine o_goto W394 (pc' := 518) (hb hy at_514) (by decide) rfl ?_
          exact o_retN W394 hlk (t := .boolean) hret (by simp) (z' := (1 : Int32)) (by decide) (hb hy at_518) (by decide) (by decide) rfl
        · refine o_icmpN W392 (pc' := 385) (hb hy at_382) (XT.ii_ne_f hq393) rfl ?_
          refine o_aload W392 (pc' := 387) (hb hy at_385) rfl rfl rfl ?_
          refine o_astore W392 (L' := #[.val (.int p0), .val (.int p1), .val (.int p2), .val (.int p3), .val (.int 1), .val (.int 1), .val (.int (p2 &&& (255 : Int32))), .val (.ref b224), .val (.ref b232), .val (.ref b245), .val (.ref b254), .val (.ref b255), .val (.ref b263), .val (.ref b389), .val (.ref gO4), .val (.ref b232), .val (.ref gO4), .val (.int 6), .val (.int 117)]) (pc' := 389) (hb hy at_387) rfl rfl rfl ?_
          refine o_goto W392 (pc' := 395) (hb hy at_389) (by decide) rfl ?_
          refine o_goto W392 (pc' := 503) (hb hy at_395) (by decide) rfl ?_
          refine o_aload W392 (pc' := 505) (hb hy at_503) rfl rfl rfl ?_
          refine o_static W392 (y := (⟨"com/example/sessn/sessn/session/Weights", "labelled", "(Ljava/lang/String;)Lcom/example/sessn/sessn/session/Weights;"⟩ : MethodName)) (w34 hw) (w35 hw) (w2 hw) (w36 hw) (by decide) (argsL := [(.ref b389)]) (CtrN.back (Wd := 0) W392 (rm3 l Z a0 hw gCS gO1 gO2 gO4 gO6 gO8 gO9 gO10 gO11 gO12 gO13 k_gO2 k_gO9 k_gO11 k_gO13 b389 t392 kb392 [(112 : Int32), (114 : Int32), (101 : Int32), (118 : Int32), (45 : Int32), (99 : Int32), (p2 &&& (255 : Int32)), (114 : Int32), (114 : Int32), (101 : Int32), (110 : Int32), (116 : Int32)] h392 W392.old SgO2__VALUES VgO2 XgO2 FitgO2 FgO1_label SgCS NgCS XgO8 FgO8_value FgO8_coder VgO9 X392 Fv392 Fc392 B392 ok391 (own_eqN (by simp)) FgO4_label XgO10 FgO10_value FgO10_coder VgO11 (own_eqY (by simp [hq393])) FgO6_label XgO12 FgO12_value FgO12_coder VgO13 (own_eqN (by simp))) (w36 hw) (w2 hw) (by decide) (by decide)) (by rw [hml]; rfl) (lenOf pd3 rfl) (S := []) rfl (by exact Nat.le_of_eq rfl) (pc' := 508) (hb hy at_505) rfl (cells' := 9) (slots' := 64) rfl rfl (by decide) (by decide) (wy := []) (fun _ _ _ q => ⟨q.1, q.2.1⟩) all0 (fun _ _ => trivial) ?_
          intro v395 T395 h395 lo395 W395 K395 q395
          obtain rfl := q395.2.2
          show Gl _ _ _ _ _ _ _ _ [(.ref gO4)]
          refine o_aload W395 (pc' := 510) (hb hy at_508) rfl rfl rfl ?_
          refine o_acmpN W395 (pc' := 513) (hb hy at_510) rfl rfl (XT.aa_ne_f rfl) rfl ?_
          refine o_iconst W395 (v := 1) (pc' := 514) (hb hy at_513) rfl rfl ?_
          refine o_goto W395 (pc' := 518) (hb hy at_514) (by decide) rfl ?_
          exact o_retN W395 hlk (t := .boolean) hret (by simp) (z' := (1 : Int32)) (by decide) (hb hy at_518) (by decide) (by decide) rfl
      · refine o_irem W335 (v := 7) (pc' := 341) (hb hy at_340) (by decide) ek339 rfl ?_
        refine o_istore W335 (L' := #[.val (.int p0), .val (.int p1), .val (.int p2), .val (.int p3), .val (.int 1), .val (.int 1), .val (.int (p2 &&& (255 : Int32))), .val (.ref b224), .val (.ref b232), .val (.ref b245), .val (.ref b254), .val (.ref b255), .val (.ref b263), .unset, .unset, .val (.ref b232), .val (.ref gO4), .val (.int 7), .unset]) (pc' := 343) (hb hy at_341) rfl rfl ?_
        refine o_aload W335 (pc' := 345) (hb hy at_343) rfl rfl rfl ?_
        refine o_iload W335 (pc' := 347) (hb hy at_345) rfl rfl ?_
        refine o_caload W335 c338 (x := (114 : Int32)) (i := 7) (by decide) (by decide) (by decide) rfl (pc' := 348) (hb hy at_347) rfl ?_
        refine o_istore W335 (L' := #[.val (.int p0), .val (.int p1), .val (.int p2), .val (.int p3), .val (.int 1), .val (.int 1), .val (.int (p2 &&& (255 : Int32))), .val (.ref b224), .val (.ref b232), .val (.ref b245), .val (.ref b254), .val (.ref b255), .val (.ref b263), .unset, .unset, .val (.ref b232), .val (.ref gO4), .val (.int 7), .val (.int 114)]) (pc' := 350) (hb hy at_348) rfl rfl ?_
        refine o_iload W335 (pc' := 352) (hb hy at_350) rfl rfl ?_
        refine o_ifN W335 (pc' := 355) (hb hy at_352) (XT.i0_eq_f (by decide)) rfl ?_
        refine o_aload W335 (pc' := 357) (hb hy at_355) rfl rfl rfl ?_
        refine o_iload W335 (pc' := 359) (hb hy at_357) rfl rfl ?_
        refine o_iload W335 (pc' := 361) (hb hy at_359) rfl rfl ?_
        refine o_stC W335 c338 (i := 7) (x' := (p2 &&& (255 : Int32))) (by decide) (by decide) (by decide) (Nat.lt_of_sub_eq_succ rfl) (own_i2c (own_b255 _)) (vs' := [(.int 112), (.int 114), (.int 101), (.int 118), (.int 45), (.int 99), (.int 117), (.int (p2 &&& (255 : Int32))), (.int 114), (.int 101), (.int 110), (.int 116)]) rfl gz232 (Or.inr gb232) (fun _ _ => trivial) (pc' := 362) (hb hy at_361) rfl ?_
        intro T396 h396 lo396 W396 R396 V396
        refine o_new W396 (w5 hw) (w6 hw) (w7 hw) (fun _ _ => trivial) (pc' := 365) (hb hy at_362) rfl (cells' := 7) (slots' := 49) rfl rfl (by decide) (by decide) ?_
        intro b397 T397 h397 W397 E397 ge397 gz397 gb397 A397 D397
        have Fb397_coder : Fld Z h397 b397 "java/lang/String" "coder" "B" (.int 0) := D397 (Or.inr (w31 hw)) (ty := .byte) (by decide)
        have Fb397_value : Fld Z h397 b397 "java/lang/String" "value" "[B" .null := D397 (Or.inr (w33 hw)) (ty := (.array .byte)) (by decide)
        refine o_dup W397 (pc' := 366) (hb hy at_365) rfl rfl ?_
        refine o_aload W397 (pc' := 368) (hb hy at_366) rfl rfl rfl ?_
        have c398 := (V396.ext E397)
        have ok399 : own_ok [(112 : Int32), (114 : Int32), (101 : Int32), (118 : Int32), (45 : Int32), (99 : Int32), (117 : Int32), (p2 &&& (255 : Int32)), (114 : Int32), (101 : Int32), (110 : Int32), (116 : Int32)] := ⟨by simp only [List.mem_cons, List.not_mem_nil, or_false, forall_eq_or_imp, forall_eq, false_imp_iff, implies_true]; exact ⟨(by unfold own_b; decide), (by unfold own_b; decide), (by unfold own_b; decide), (by unfold own_b; decide), (by unfold own_b; decide), (by unfold own_b; decide), (by unfold own_b; decide), (own_b255 _), (by unfold own_b; decide), (by unfold own_b; decide), (by unfold own_b; decide), (by unfold own_b; decide)⟩, Nat.le_of_ble_eq_true rfl⟩
        refine o_special W397 (y := (⟨"java/lang/String", "<init>", "([C)V"⟩ : MethodName)) rfl (w8 hw) (w9 hw) (w10 hw) (by decide) (a := b397) (argsL := [(.ref b232)]) (StrChars.Road.backV (W := 1) W397.2.2.2.1 (own_hV hw) (kI := 4) (w6 hw) (cs := [(112 : Int32), (114 : Int32), (101 : Int32), (118 : Int32), (45 : Int32), (99 : Int32), (117 : Int32), (p2 &&& (255 : Int32)), (114 : Int32), (101 : Int32), (110 : Int32), (116 : Int32)]) (bs := [((112 : Int32)).toInt8.toInt32, ((114 : Int32)).toInt8.toInt32, ((101 : Int32)).toInt8.toInt32, ((118 : Int32)).toInt8.toInt32, ((45 : Int32)).toInt8.toInt32, ((99 : Int32)).toInt8.toInt32, ((117 : Int32)).toInt8.toInt32, ((p2 &&& (255 : Int32))).toInt8.toInt32, ((114 : Int32)).toInt8.toInt32, ((101 : Int32)).toInt8.toInt32, ((110 : Int32)).toInt8.toInt32, ((116 : Int32)).toInt8.toInt32]) (n := 12) (n0 := Z.heap.size) gz397 W397.zs A397 Fb397_value Fb397_coder c398 (SgCS.ext W397.ox) NgCS rfl rfl (by decide) (by decide) ok399.1 rfl (by decide) (by decide)) (by rw [hml]; rfl) (lenOf pd0 rfl) (S := [(.ref b397)]) rfl (by exact Nat.le_of_eq rfl) (pc' := 371) (hb hy at_368) rfl (cells' := 8) (slots' := 61) rfl rfl (by decide) (by decide) (wy := [b397]) (fun _ _ _ q => ⟨q.2.1, q.2.2.1⟩) (allS ⟨gz397, (Or.inr gb397)⟩ all0) (fun _ _ => trivial) ?_
        intro v400 T400 h400 lo400 W400 K400 q400
        obtain ⟨rfl, -, -, X400, Fc400, t400, kb400, gz400, ge400, -, Fv400, A400⟩ := q400
        have B400 : Arv Z h400 t400 kb400 .byte (12 : Int32) [(.int (StrChars.lo8 (112 : Int32))), (.int (StrChars.lo8 (114 : Int32))), (.int (StrChars.lo8 (101 : Int32))), (.int (StrChars.lo8 (118 : Int32))), (.int (StrChars.lo8 (45 : Int32))), (.int (StrChars.lo8 (99 : Int32))), (.int (StrChars.lo8 (117 : Int32))), (.int (StrChars.lo8 (p2 &&& (255 : Int32)))), (.int (StrChars.lo8 (114 : Int32))), (.int (StrChars.lo8 (101 : Int32))), (.int (StrChars.lo8 (110 : Int32))), (.int (StrChars.lo8 (116 : Int32)))] (.int 0) := A400
        show Gl _ _ _ _ _ _ _ _ [(.ref b397)]
        refine o_astore W400 (L' := #[.val (.int p0), .val (.int p1), .val (.int p2), .val (.int p3), .val (.int 1), .val (.int 1), .val (.int (p2 &&& (255 : Int32))), .val (.ref b224), .val (.ref b232), .val (.ref b245), .val (.ref b254), .val (.ref b255), .val (.ref b263), .val (.ref b397), .unset, .val (.ref b232), .val (.ref gO4), .val (.int 7), .val (.int 114)]) (pc' := 373) (hb hy at_371) rfl rfl rfl ?_
        refine o_iload W400 (pc' := 375) (hb hy at_373) rfl rfl ?_
        refine o_ifN W400 (pc' := 378) (hb hy at_375) (XT.i0_eq_f (by decide)) rfl ?_
        refine o_iload W400 (pc' := 380) (hb hy at_378) rfl rfl ?_
        refine o_iload W400 (pc' := 382) (hb hy at_380) rfl rfl ?_
        rcases (Classical.em ((p2 &&& (255 : Int32)) = (114 : Int32))).symm with hq401 | hq401
        · refine o_icmpY W400 (pc' := 392) (hb hy at_382) (XT.ii_ne_t hq401) (by decide) rfl ?_
          refine o_aconstNull W400 (pc' := 393) (hb hy at_392) rfl ?_
          refine o_astore W400 (L' := #[.val (.int p0), .val (.int p1), .val (.int p2), .val (.int p3), .val (.int 1), .val (.int 1), .val (.int (p2 &&& (255 : Int32))), .val (.ref b224), .val (.ref b232), .val (.ref b245), .val (.ref b254), .val (.ref b255), .val (.ref b263), .val (.ref b397), .val .null, .val (.ref b232), .val (.ref gO4), .val (.int 7), .val (.int 114)]) (pc' := 395) (hb hy at_393) rfl rfl rfl ?_
          refine o_goto W400 (pc' := 503) (hb hy at_395) (by decide) rfl ?_
          refine o_aload W400 (pc' := 505) (hb hy at_503) rfl rfl rfl ?_
          refine o_static W400 (y := (⟨"com/example/sessn/sessn/session/Weights", "labelled", "(Ljava/lang/String;)Lcom/example/sessn/sessn/session/Weights;"⟩ : MethodName)) (w34 hw) (w35 hw) (w2 hw) (w36 hw) (by decide) (argsL := [(.ref b397)]) (CtrN.back (Wd := 0) W400 (rm9 l Z a0 hw gCS gO1 gO2 gO4 gO6 gO8 gO9 gO10 gO11 gO12 gO13 k_gO2 k_gO9 k_gO11 k_gO13 b397 t400 kb400 [(112 : Int32), (114 : Int32), (101 : Int32), (118 : Int32), (45 : Int32), (99 : Int32), (117 : Int32), (p2 &&& (255 : Int32)), (114 : Int32), (101 : Int32), (110 : Int32), (116 : Int32)] h400 W400.old SgO2__VALUES VgO2 XgO2 FitgO2 FgO1_label SgCS NgCS XgO8 FgO8_value FgO8_coder VgO9 X400 Fv400 Fc400 B400 ok399 (own_eqN (by simp)) FgO4_label XgO10 FgO10_value FgO10_coder VgO11 (own_eqN (by simp [hq401, Ne.symm hq401])) FgO6_label XgO12 FgO12_value FgO12_coder VgO13 (own_eqN (by simp))) (w36 hw) (w2 hw) (by decide) (by decide)) (by rw [hml]; rfl) (lenOf pd3 rfl) (S := []) rfl (by exact Nat.le_of_eq rfl) (pc' := 508) (hb hy at_505) rfl (cells' := 9) (slots' := 64) rfl rfl (by decide) (by decide) (wy := []) (fun _ _ _ q => ⟨q.1, q.2.1⟩) all0 (fun _ _ => trivial) ?_
          intro v402 T402 h402 lo402 W402 K402 q402
          obtain rfl := q402.2.2
          show Gl _ _ _ _ _ _ _ _ [.null]
          refine o_aload W402 (pc' := 510) (hb hy at_508) rfl rfl rfl ?_
          refine o_acmpN W402 (pc' := 513) (hb hy at_510) rfl rfl (XT.aa_ne_f rfl) rfl ?_
          refine o_iconst W402 (v := 1) (pc' := 514) (hb hy at_513) rfl rfl ?_
          refine o_goto W402 (pc' := 518) (hb hy at_514) (by decide) rfl ?_
          exact o_retN W402 hlk (t := .boolean) hret (by simp) (z' := (1 : Int32)) (by decide) (hb hy at_518) (by decide) (by decide) rfl
        · refine o_icmpN W400 (pc' := 385) (hb hy at_382) (XT.ii_ne_f hq401) rfl ?_
          refine o_aload W400 (pc' := 387) (hb hy at_385) rfl rfl rfl ?_
          refine o_astore W400 (L' := #[.val (.int p0), .val (.int p1), .val (.int p2), .val (.int p3), .val (.int 1), .val (.int 1), .val (.int (p2 &&& (255 : Int32))), .val (.ref b224), .val (.ref b232), .val (.ref b245), .val (.ref b254), .val (.ref b255), .val (.ref b263), .val (.ref b397), .val (.ref gO4), .val (.ref b232), .val (.ref gO4), .val (.int 7), .val (.int 114)]) (pc' := 389) (hb hy at_387) rfl rfl rfl ?_
          refine o_goto W400 (pc' := 395) (hb hy at_389) (by decide) rfl ?_
          refine o_goto W400 (pc' := 503) (hb hy at_395) (by decide) rfl ?_
          refine o_aload W400 (pc' := 505) (hb hy at_503) rfl rfl rfl ?_
          refine o_static W400 (y := (⟨"com/example/sessn/sessn/session/Weights", "labelled", "(Ljava/lang/String;)Lcom/example/sessn/sessn/session/Weights;"⟩ : MethodName)) (w34 hw) (w35 hw) (w2 hw) (w36 hw) (by decide) (argsL := [(.ref b397)]) (CtrN.back (Wd := 0) W400 (rm3 l Z a0 hw gCS gO1 gO2 gO4 gO6 gO8 gO9 gO10 gO11 gO12 gO13 k_gO2 k_gO9 k_gO11 k_gO13 b397 t400 kb400 [(112 : Int32), (114 : Int32), (101 : Int32), (118 : Int32), (45 : Int32), (99 : Int32), (117 : Int32), (p2 &&& (255 : Int32)), (114 : Int32), (101 : Int32), (110 : Int32), (116 : Int32)] h400 W400.old SgO2__VALUES VgO2 XgO2 FitgO2 FgO1_label SgCS NgCS XgO8 FgO8_value FgO8_coder VgO9 X400 Fv400 Fc400 B400 ok399 (own_eqN (by simp)) FgO4_label XgO10 FgO10_value FgO10_coder VgO11 (own_eqY (by simp [hq401])) FgO6_label XgO12 FgO12_value FgO12_coder VgO13 (own_eqN (by simp))) (w36 hw) (w2 hw) (by decide) (by decide)) (by rw [hml]; rfl) (lenOf pd3 rfl) (S := []) rfl (by exact Nat.le_of_eq rfl) (pc' := 508) (hb hy at_505) rfl (cells' := 9) (slots' := 64) rfl rfl (by decide) (by decide) (wy := []) (fun _ _ _ q => ⟨q.1, q.2.1⟩) all0 (fun _ _ => trivial) ?_
          intro v403 T403 h403 lo403 W403 K403 q403
          obtain rfl := q403.2.2
          show Gl _ _ _ _ _ _ _ _ [(.ref gO4)]
          refine o_aload W403 (pc' := 510) (hb hy at_508) rfl rfl rfl ?_
          refine o_acmpN W403 (pc' := 513) (hb hy at_510) rfl rfl (XT.aa_ne_f rfl) rfl ?_
          refine o_iconst W403 (v := 1) (pc' := 514) (hb hy at_513) rfl rfl ?_
          refine o_goto W403 (pc' := 518) (hb hy at_514) (by decide) rfl ?_
          exact o_retN W403 hlk (t := .boolean) hret (by simp) (z' := (1 : Int32)) (by decide) (hb hy at_518) (by decide) (by decide) rfl
      · refine o_irem W335 (v := 8) (pc' := 341) (hb hy at_340) (by decide) ek339 rfl ?_
        refine o_istore W335 (L' := #[.val (.int p0), .val (.int p1), .val (.int p2), .val (.int p3), .val (.int 1), .val (.int 1), .val (.int (p2 &&& (255 : Int32))), .val (.ref b224), .val (.ref b232), .val (.ref b245), .val (.ref b254), .val (.ref b255), .val (.ref b263), .unset, .unset, .val (.ref b232), .val (.ref gO4), .val (.int 8), .unset]) (pc' := 343) (hb hy at_341) rfl rfl ?_
        refine o_aload W335 (pc' := 345) (hb hy at_343) rfl rfl rfl ?_
        refine o_iload W335 (pc' := 347) (hb hy at_345) rfl rfl ?_
        refine o_caload W335 c338 (x := (114 : Int32)) (i := 8) (by decide) (by decide) (by decide) rfl (pc' := 348) (hb hy at_347) rfl ?_
        refine o_istore W335 (L' := #[.val (.int p0), .val (.int p1), .val (.int p2), .val (.int p3), .val (.int 1), .val (.int 1), .val (.int (p2 &&& (255 : Int32))), .val (.ref b224), .val (.ref b232), .val (.ref b245), .val (.ref b254), .val (.ref b255), .val (.ref b263), .unset, .unset, .val (.ref b232), .val (.ref gO4), .val (.int 8), .val (.int 114)]) (pc' := 350) (hb hy at_348) rfl rfl ?_
        refine o_iload W335 (pc' := 352) (hb hy at_350) rfl rfl ?_
        refine o_ifN W335 (pc' := 355) (hb hy at_352) (XT.i0_eq_f (by decide)) rfl ?_
        refine o_aload W335 (pc' := 357) (hb hy at_355) rfl rfl rfl ?_
        refine o_iload W335 (pc' := 359) (hb hy at_357) rfl rfl ?_
        refine o_iload W335 (pc' := 361) (hb hy at_359) rfl rfl ?_
        refine o_stC W335 c338 (i := 8) (x' := (p2 &&& (255 : Int32))) (by decide) (by decide) (by decide) (Nat.lt_of_sub_eq_succ rfl) (own_i2c (own_b255 _)) (vs' := [(.int 112), (.int 114), (.int 101), (.int 118), (.int 45), (.int 99), (.int 117), (.int 114), (.int (p2 &&& (255 : Int32))), (.int 101), (.int 110), (.int 116)]) rfl gz232 (Or.inr gb232) (fun _ _ => trivial) (pc' := 362) (hb hy at_361) rfl ?_
        intro T404 h404 lo404 W404 R404 V404
        refine o_new W404 (w5 hw) (w6 hw) (w7 hw) (fun _ _ => trivial) (pc' := 365) (hb hy at_362) rfl (cells' := 7) (slots' := 49) rfl rfl (by decide) (by decide) ?_
        intro b405 T405 h405 W405 E405 ge405 gz405 gb405 A405 D405
        have Fb405_coder : Fld Z h405 b405 "java/lang/String" "coder" "B" (.int 0) := D405 (Or.inr (w31 hw)) (ty := .byte) (by decide)
        have Fb405_value : Fld Z h405 b405 "java/lang/String" "value" "[B" .null := D405 (Or.inr (w33 hw)) (ty := (.array .byte)) (by decide)
        refine o_dup W405 (pc' := 366) (hb hy at_365) rfl rfl ?_
        refine o_aload W405 (pc' := 368) (hb hy at_366) rfl rfl rfl ?_
        have c406 := (V404.ext E405)
        have ok407 : own_ok [(112 : Int32), (114 : Int32), (101 : Int32), (118 : Int32), (45 : Int32), (99 : Int32), (117 : Int32), (114 : Int32), (p2 &&& (255 : Int32)), (101 : Int32), (110 : Int32), (116 : Int32)] := ⟨by simp only [List.mem_cons, List.not_mem_nil, or_false, forall_eq_or_imp, forall_eq, false_imp_iff, implies_true]; exact ⟨(by unfold own_b; decide), (by unfold own_b; decide), (by unfold own_b; decide), (by unfold own_b; decide), (by unfold own_b; decide), (by unfold own_b; decide), (by unfold own_b; decide), (by unfold own_b; decide), (own_b255 _), (by unfold own_b; decide), (by unfold own_b; decide), (by unfold own_b; decide)⟩, Nat.le_of_ble_eq_true rfl⟩
        refine o_special W405 (y := (⟨"java/lang/String", "<init>", "([C)V"⟩ : MethodName)) rfl (w8 hw) (w9 hw) (w10 hw) (by decide) (a := b405) (argsL := [(.ref b232)]) (StrChars.Road.backV (W := 1) W405.2.2.2.1 (own_hV hw) (kI := 4) (w6 hw) (cs := [(112 : Int32), (114 : Int32), (101 : Int32), (118 : Int32), (45 : Int32), (99 : Int32), (117 : Int32), (114 : Int32), (p2 &&& (255 : Int32)), (101 : Int32), (110 : Int32), (116 : Int32)]) (bs := [((112 : Int32)).toInt8.toInt32, ((114 : Int32)).toInt8.toInt32, ((101 : Int32)).toInt8.toInt32, ((118 : Int32)).toInt8.toInt32, ((45 : Int32)).toInt8.toInt32, ((99 : Int32)).toInt8.toInt32, ((117 : Int32)).toInt8.toInt32, ((114 : Int32)).toInt8.toInt32, ((p2 &&& (255 : Int32))).toInt8.toInt32, ((101 : Int32)).toInt8.toInt32, ((110 : Int32)).toInt8.toInt32, ((116 : Int32)).toInt8.toInt32]) (n := 12) (n0 := Z.heap.size) gz405 W405.zs A405 Fb405_value Fb405_coder c406 (SgCS.ext W405.ox) NgCS rfl rfl (by decide) (by decide) ok407.1 rfl (by decide) (by decide)) (by rw [hml]; rfl) (lenOf pd0 rfl) (S := [(.ref b405)]) rfl (by exact Nat.le_of_eq rfl) (pc' := 371) (hb hy at_368) rfl (cells' := 8) (slots' := 61) rfl rfl (by decide) (by decide) (wy := [b405]) (fun _ _ _ q => ⟨q.2.1, q.2.2.1⟩) (allS ⟨gz405, (Or.inr gb405)⟩ all0) (fun _ _ => trivial) ?_
        intro v408 T408 h408 lo408 W408 K408 q408
        obtain ⟨rfl, -, -, X408, Fc408, t408, kb408, gz408, ge408, -, Fv408, A408⟩ := q408
        have B408 : Arv Z h408 t408 kb408 .byte (12 : Int32) [(.int (StrChars.lo8 (112 : Int32))), (.int (StrChars.lo8 (114 : Int32))), (.int (StrChars.lo8 (101 : Int32))), (.int (StrChars.lo8 (118 : Int32))), (.int (StrChars.lo8 (45 : Int32))), (.int (StrChars.lo8 (99 : Int32))), (.int (StrChars.lo8 (117 : Int32))), (.int (StrChars.lo8 (114 : Int32))), (.int (StrChars.lo8 (p2 &&& (255 : Int32)))), (.int (StrChars.lo8 (101 : Int32))), (.int (StrChars.lo8 (110 : Int32))), (.int (StrChars.lo8 (116 : Int32)))] (.int 0) := A408
        show Gl _ _ _ _ _ _ _ _ [(.ref b405)]
        refine o_astore W408 (L' := #[.val (.int p0), .val (.int p1), .val (.int p2), .val (.int p3), .val (.int 1), .val (.int 1), .val (.int (p2 &&& (255 : Int32))), .val (.ref b224), .val (.ref b232), .val (.ref b245), .val (.ref b254), .val (.ref b255), .val (.ref b263), .val (.ref b405), .unset, .val (.ref b232), .val (.ref gO4), .val (.int 8), .val (.int 114)]) (pc' := 373) (hb hy at_371) rfl rfl rfl ?_
        refine o_iload W408 (pc' := 375) (hb hy at_373) rfl rfl ?_
        refine o_ifN W408 (pc' := 378) (hb hy at_375) (XT.i0_eq_f (by decide)) rfl ?_
        refine o_iload W408 (pc' := 380) (hb hy at_378) rfl rfl ?_
        refine o_iload W408 (pc' := 382) (hb hy at_380) rfl rfl ?_
        rcases (Classical.em ((p2 &&& (255 : Int32)) = (114 : Int32))).symm with hq409 | hq409
        · refine o_icmpY W408 (pc' := 392) (hb hy at_382) (XT.ii_ne_t hq409) (by decide) rfl ?_
          refine o_aconstNull W408 (pc' := 393) (hb hy at_392) rfl ?_
          refine o_astore W408 (L' := #[.val (.int p0), .val (.int p1), .val (.int p2), .val (.int p3), .val (.int 1), .val (.int 1), .val (.int (p2 &&& (255 : Int32))), .val (.ref b224), .val (.ref b232), .val (.ref b245), .val (.ref b254), .val (.ref b255), .val (.ref b263), .val (.ref b405), .val .null, .val (.ref b232), .val (.ref gO4), .val (.int 8), .val (.int 114)]) (pc' := 395) (hb hy at_393) rfl rfl rfl ?_
          refine o_goto W408 (pc' := 503) (hb hy at_395) (by decide) rfl ?_
          refine o_aload W408 (pc' := 505) (hb hy at_503) rfl rfl rfl ?_
          refine o_static W408 (y := (⟨"com/example/sessn/sessn/session/Weights", "labelled", "(Ljava/lang/String;)Lcom/example/sessn/sessn/session/Weights;"⟩ : MethodName)) (w34 hw) (w35 hw) (w2 hw) (w36 hw) (by decide) (argsL := [(.ref b405)]) (CtrN.back (Wd := 0) W408 (rm9 l Z a0 hw gCS gO1 gO2 gO4 gO6 gO8 gO9 gO10 gO11 gO12 gO13 k_gO2 k_gO9 k_gO11 k_gO13 b405 t408 kb408 [(112 : Int32), (114 : Int32), (101 : Int32), (118 : Int32), (45 : Int32), (99 : Int32), (117 : Int32), (114 : Int32), (p2 &&& (255 : Int32)), (101 : Int32), (110 : Int32), (116 : Int32)] h408 W408.old SgO2__VALUES VgO2 XgO2 FitgO2 FgO1_label SgCS NgCS XgO8 FgO8_value FgO8_coder VgO9 X408 Fv408 Fc408 B408 ok407 (own_eqN (by simp)) FgO4_label XgO10 FgO10_value FgO10_coder VgO11 (own_eqN (by simp [hq409, Ne.symm hq409])) FgO6_label XgO12 FgO12_value FgO12_coder VgO13 (own_eqN (by simp))) (w36 hw) (w2 hw) (by decide) (by decide)) (by rw [hml]; rfl) (lenOf pd3 rfl) (S := []) rfl (by exact Nat.le_of_eq rfl) (pc' := 508) (hb hy at_505) rfl (cells' := 9) (slots' := 64) rfl rfl (by decide) (by decide) (wy := []) (fun _ _ _ q => ⟨q.1, q.2.1⟩) all0 (fun _ _ => trivial) ?_
          intro v410 T410 h410 lo410 W410 K410 q410
          obtain rfl := q410.2.2
          show Gl _ _ _ _ _ _ _ _ [.null]
          refine o_aload W410 (pc' := 510) (hb hy at_508) rfl rfl rfl ?_
          refine o_acmpN W410 (pc' := 513) (hb hy at_510) rfl rfl (XT.aa_ne_f rfl) rfl ?_
          refine o_iconst W410 (v := 1) (pc' := 514) (hb hy at_513) rfl rfl ?_
          refine o_goto W410 (pc' := 518) (hb hy at_514) (by decide) rfl ?_
          exact o_retN W410 hlk (t := .boolean) hret (by simp) (z' := (1 : Int32)) (by decide) (hb hy at_518) (by decide) (by decide) rfl
        · refine o_icmpN W408 (pc' := 385) (hb hy at_382) (XT.ii_ne_f hq409) rfl ?_
          refine o_aload W408 (pc' := 387) (hb hy at_385) rfl rfl rfl ?_
          refine o_astore W408 (L' := #[.val (.int p0), .val (.int p1), .val (.int p2), .val (.int p3), .val (.int 1), .val (.int 1), .val (.int (p2 &&& (255 : Int32))), .val (.ref b224), .val (.ref b232), .val (.ref b245), .val (.ref b254), .val (.ref b255), .val (.ref b263), .val (.ref b405), .val (.ref gO4), .val (.ref b232), .val (.ref gO4), .val (.int 8), .val (.int 114)]) (pc' := 389) (hb hy at_387) rfl rfl rfl ?_
          refine o_goto W408 (pc' := 395) (hb hy at_389) (by decide) rfl ?_
          refine o_goto W408 (pc' := 503) (hb hy at_395) (by decide) rfl ?_
          refine o_aload W408 (pc' := 505) (hb hy at_503) rfl rfl rfl ?_
          refine o_static W408 (y := (⟨"com/example/sessn/sessn/session/Weights", "labelled", "(Ljava/lang/String;)Lcom/example/sessn/sessn/session/Weights;"⟩ : MethodName)) (w34 hw) (w35 hw) (w2 hw) (w36 hw) (by decide) (argsL := [(.ref b405)]) (CtrN.back (Wd := 0) W408 (rm3 l Z a0 hw gCS gO1 gO2 gO4 gO6 gO8 gO9 gO10 gO11 gO12 gO13 k_gO2 k_gO9 k_gO11 k_gO13 b405 t408 kb408 [(112 : Int32), (114 : Int32), (101 : Int32), (118 : Int32), (45 : Int32), (99 : Int32), (117 : Int32), (114 : Int32), (p2 &&& (255 : Int32)), (101 : Int32), (110 : Int32), (116 : Int32)] h408 W408.old SgO2__VALUES VgO2 XgO2 FitgO2 FgO1_label SgCS NgCS XgO8 FgO8_value FgO8_coder VgO9 X408 Fv408 Fc408 B408 ok407 (own_eqN (by simp)) FgO4_label XgO10 FgO10_value FgO10_coder VgO11 (own_eqY (by simp [hq409])) FgO6_label XgO12 FgO12_value FgO12_coder VgO13 (own_eqN (by simp))) (w36 hw) (w2 hw) (by decide) (by decide)) (by rw [hml]; rfl) (lenOf pd3 rfl) (S := []) rfl (by exact Nat.le_of_eq rfl) (pc' := 508) (hb hy at_505) rfl (cells' := 9) (slots' := 64) rfl rfl (by decide) (by decide) (wy := []) (fun _ _ _ q => ⟨q.1, q.2.1⟩) all0 (fun _ _ => trivial) ?_
          intro v411 T411 h411 lo411 W411 K411 q411
          obtain rfl := q411.2.2
          show Gl _ _ _ _ _ _ _ _ [(.ref gO4)]
          refine o_aload W411 (pc' := 510) (hb hy at_508) rfl rfl rfl ?_
          refine o_acmpN W411 (pc' := 513) (hb hy at_510) rfl rfl (XT.aa_ne_f rfl) rfl ?_
          refine o_iconst W411 (v := 1) (pc' := 514) (hb hy at_513) rfl rfl ?_
          refine o_goto W411 (pc' := 518) (hb hy at_514) (by decide) rfl ?_
          exact o_retN W411 hlk (t := .boolean) hret (by simp) (z' := (1 : Int32)) (by decide) (hb hy at_518) (by decide) (by decide) rfl
      · refine o_irem W335 (v := 9) (pc' := 341) (hb hy at_340) (by decide) ek339 rfl ?_
        refine o_istore W335 (L' := #[.val (.int p0), .val (.int p1), .val (.int p2), .val (.int p3), .val (.int 1), .val (.int 1), .val (.int (p2 &&& (255 : Int32))), .val (.ref b224), .val (.ref b232), .val (.ref b245), .val (.ref b254), .val (.ref b255), .val (.ref b263), .unset, .unset, .val (.ref b232), .val (.ref gO4), .val (.int 9), .unset]) (pc' := 343) (hb hy at_341) rfl rfl ?_
        refine o_aload W335 (pc' := 345) (hb hy at_343) rfl rfl rfl ?_
        refine o_iload W335 (pc' := 347) (hb hy at_345) rfl rfl ?_
        refine o_caload W335 c338 (x := (101 : Int32)) (i := 9) (by decide) (by decide) (by decide) rfl (pc' := 348) (hb hy at_347) rfl ?_
        refine o_istore W335 (L' := #[.val (.int p0), .val (.int p1), .val (.int p2), .val (.int p3), .val (.int 1), .val (.int 1), .val (.int (p2 &&& (255 : Int32))), .val (.ref b224), .val (.ref b232), .val (.ref b245), .val (.ref b254), .val (.ref b255), .val (.ref b263), .unset, .unset, .val (.ref b232), .val (.ref gO4), .val (.int 9), .val (.int 101)]) (pc' := 350) (hb hy at_348) rfl rfl ?_
        refine o_iload W335 (pc' := 352) (hb hy at_350) rfl rfl ?_
        refine o_ifN W335 (pc' := 355) (hb hy at_352) (XT.i0_eq_f (by decide)) rfl ?_
        refine o_aload W335 (pc' := 357) (hb hy at_355) rfl rfl rfl ?_
        refine o_iload W335 (pc' := 359) (hb hy at_357) rfl rfl ?_
        refine o_iload W335 (pc' := 361) (hb hy at_359) rfl rfl ?_
        refine o_stC W335 c338 (i := 9) (x' := (p2 &&& (255 : Int32))) (by decide) (by decide) (by decide) (Nat.lt_of_sub_eq_succ rfl) (own_i2c (own_b255 _)) (vs' := [(.int 112), (.int 114), (.int 101), (.int 118), (.int 45), (.int 99), (.int 117), (.int 114), (.int 114), (.int (p2 &&& (255 : Int32))), (.int 110), (.int 116)]) rfl gz232 (Or.inr gb232) (fun _ _ => trivial) (pc' := 362) (hb hy at_361) rfl ?_
        intro T412 h412 lo412 W412 R412 V412
        refine o_new W412 (w5 hw) (w6 hw) (w7 hw) (fun _ _ => trivial) (pc' := 365) (hb hy at_362) rfl (cells' := 7) (slots' := 49) rfl rfl (by decide) (by decide) ?_
        intro b413 T413 h413 W413 E413 ge413 gz413 gb413 A413 D413
        have Fb413_coder : Fld Z h413 b413 "java/lang/String" "coder" "B" (.int 0) := D413 (Or.inr (w31 hw)) (ty := .byte) (by decide)
        have Fb413_value : Fld Z h413 b413 "java/lang/String" "value" "[B" .null := D413 (Or.inr (w33 hw)) (ty := (.array .byte)) (by decide)
        refine o_dup W413 (pc' := 366) (hb hy at_365) rfl rfl ?_
        refine o_aload W413 (pc' := 368) (hb hy at_366) rfl rfl rfl ?_
        have c414 := (V412.ext E413)
        have ok415 : own_ok [(112 : Int32), (114 : Int32), (101 : Int32), (118 : Int32), (45 : Int32), (99 : Int32), (117 : Int32), (114 : Int32), (114 : Int32), (p2 &&& (255 : Int32)), (110 : Int32), (116 : Int32)] := ⟨by simp only [List.mem_cons, List.not_mem_nil, or_false, forall_eq_or_imp, forall_eq, false_imp_iff, implies_true]; exact ⟨(by unfold own_b; decide), (by unfold own_b; decide), (by unfold own_b; decide), (by unfold own_b; decide), (by unfold own_b; decide), (by unfold own_b; decide), (by unfold own_b; decide), (by unfold own_b; decide), (by unfold own_b; decide), (own_b255 _), (by unfold own_b; decide), (by unfold own_b; decide)⟩, Nat.le_of_ble_eq_true rfl⟩
        refine o_special W413 (y := (⟨"java/lang/String", "<init>", "([C)V"⟩ : MethodName)) rfl (w8 hw) (w9 hw) (w10 hw) (by decide) (a := b413) (argsL := [(.ref b232)]) (StrChars.Road.backV (W := 1) W413.2.2.2.1 (own_hV hw) (kI := 4) (w6 hw) (cs := [(112 : Int32), (114 : Int32), (101 : Int32), (118 : Int32), (45 : Int32), (99 : Int32), (117 : Int32), (114 : Int32), (114 : Int32), (p2 &&& (255 : Int32)), (110 : Int32), (116 : Int32)]) (bs := [((112 : Int32)).toInt8.toInt32, ((114 : Int32)).toInt8.toInt32, ((101 : Int32)).toInt8.toInt32, ((118 : Int32)).toInt8.toInt32, ((45 : Int32)).toInt8.toInt32, ((99 : Int32)).toInt8.toInt32, ((117 : Int32)).toInt8.toInt32, ((114 : Int32)).toInt8.toInt32, ((114 : Int32)).toInt8.toInt32, ((p2 &&& (255 : Int32))).toInt8.toInt32, ((110 : Int32)).toInt8.toInt32, ((116 : Int32)).toInt8.toInt32]) (n := 12) (n0 := Z.heap.size) gz413 W413.zs A413 Fb413_value Fb413_coder c414 (SgCS.ext W413.ox) NgCS rfl rfl (by decide) (by decide) ok415.1 rfl (by decide) (by decide)) (by rw [hml]; rfl) (lenOf pd0 rfl) (S := [(.ref b413)]) rfl (by exact Nat.le_of_eq rfl) (pc' := 371) (hb hy at_368) rfl (cells' := 8) (slots' := 61) rfl rfl (by decide) (by decide) (wy := [b413]) (fun _ _ _ q => ⟨q.2.1, q.2.2.1⟩) (allS ⟨gz413, (Or.inr gb413)⟩ all0) (fun _ _ => trivial) ?_
        intro v416 T416 h416 lo416 W416 K416 q416
        obtain ⟨rfl, -, -, X416, Fc416, t416, kb416, gz416, ge416, -, Fv416, A416⟩ := q416
        have B416 : Arv Z h416 t416 kb416 .byte (12 : Int32) [(.int (StrChars.lo8 (112 : Int32))), (.int (StrChars.lo8 (114 : Int32))), (.int (StrChars.lo8 (101 : Int32))), (.int (StrChars.lo8 (118 : Int32))), (.int (StrChars.lo8 (45 : Int32))), (.int (StrChars.lo8 (99 : Int32))), (.int (StrChars.lo8 (117 : Int32))), (.int (StrChars.lo8 (114 : Int32))), (.int (StrChars.lo8 (114 : Int32))), (.int (StrChars.lo8 (p2 &&& (255 : Int32)))), (.int (StrChars.lo8 (110 : Int32))), (.int (StrChars.lo8 (116 : Int32)))] (.int 0) := A416
        show Gl _ _ _ _ _ _ _ _ [(.ref b413)]
        refine o_astore W416 (L' := #[.val (.int p0), .val (.int p1), .val (.int p2), .val (.int p3), .val (.int 1), .val (.int 1), .val (.int (p2 &&& (255 : Int32))), .val (.ref b224), .val (.ref b232), .val (.ref b245), .val (.ref b254), .val (.ref b255), .val (.ref b263), .val (.ref b413), .unset, .val (.ref b232), .val (.ref gO4), .val (.int 9), .val (.int 101)]) (pc' := 373) (hb hy at_371) rfl rfl rfl ?_
        refine o_iload W416 (pc' := 375) (hb hy at_373) rfl rfl ?_
        refine o_ifN W416 (pc' := 378) (hb hy at_375) (XT.i0_eq_f (by decide)) rfl ?_
        refine o_iload W416 (pc' := 380) (hb hy at_378) rfl rfl ?_
        refine o_iload W416 (pc' := 382) (hb hy at_380) rfl rfl ?_
        rcases (Classical.em ((p2 &&& (255 : Int32)) = (101 : Int32))).symm with hq417 | hq417
        · refine o_icmpY W416 (pc' := 392) (hb hy at_382) (XT.ii_ne_t hq417) (by decide) rfl ?_
          refine o_aconstNull W416 (pc' := 393) (hb hy at_392) rfl ?_
          refine o_astore W416 (L' := #[.val (.int p0), .val (.int p1), .val (.int p2), .val (.int p3), .val (.int 1), .val (.int 1), .val (.int (p2 &&& (255 : Int32))), .val (.ref b224), .val (.ref b232), .val (.ref b245), .val (.ref b254), .val (.ref b255), .val (.ref b263), .val (.ref b413), .val .null, .val (.ref b232), .val (.ref gO4), .val (.int 9), .val (.int 101)]) (pc' := 395) (hb hy at_393) rfl rfl rfl ?_
          refine o_goto W416 (pc' := 503) (hb hy at_395) (by decide) rfl ?_
          refine o_aload W416 (pc' := 505) (hb hy at_503) rfl rfl rfl ?_
          refine o_static W416 (y := (⟨"com/example/sessn/sessn/session/Weights", "labelled", "(Ljava/lang/String;)Lcom/example/sessn/sessn/session/Weights;"⟩ : MethodName)) (w34 hw) (w35 hw) (w2 hw) (w36 hw) (by decide) (argsL := [(.ref b413)]) (CtrN.back (Wd := 0) W416 (rm9 l Z a0 hw gCS gO1 gO2 gO4 gO6 gO8 gO9 gO10 gO11 gO12 gO13 k_gO2 k_gO9 k_gO11 k_gO13 b413 t416 kb416 [(112 : Int32), (114 : Int32), (101 : Int32), (118 : Int32), (45 : Int32), (99 : Int32), (117 : Int32), (114 : Int32), (114 : Int32), (p2 &&& (255 : Int32)), (110 : Int32), (116 : Int32)] h416 W416.old SgO2__VALUES VgO2 XgO2 FitgO2 FgO1_label SgCS NgCS XgO8 FgO8_value FgO8_coder VgO9 X416 Fv416 Fc416 B416 ok415 (own_eqN (by simp)) FgO4_label XgO10 FgO10_value FgO10_coder VgO11 (own_eqN (by simp [hq417, Ne.symm hq417])) FgO6_label XgO12 FgO12_value FgO12_coder VgO13 (own_eqN (by simp))) (w36 hw) (w2 hw) (by decide) (by decide)) (by rw [hml]; rfl) (lenOf pd3 rfl) (S := []) rfl (by exact Nat.le_of_eq rfl) (pc' := 508) (hb hy at_505) rfl (cells' := 9) (slots' := 64) rfl rfl (by decide) (by decide) (wy := []) (fun _ _ _ q => ⟨q.1, q.2.1⟩) all0 (fun _ _ => trivial) ?_
          intro v418 T418 h418 lo418 W418 K418 q418
          obtain rfl := q418.2.2
          show Gl _ _ _ _ _ _ _ _ [.null]
          refine o_aload W418 (pc' := 510) (hb hy at_508) rfl rfl rfl ?_
          refine o_acmpN W418 (pc' := 513) (hb hy at_510) rfl rfl (XT.aa_ne_f rfl) rfl ?_
          refine o_iconst W418 (v := 1) (pc' := 514) (hb hy at_513) rfl rfl ?_
          refine o_goto W418 (pc' := 518) (hb hy at_514) (by decide) rfl ?_
          exact o_retN W418 hlk (t := .boolean) hret (by simp) (z' := (1 : Int32)) (by decide) (hb hy at_518) (by decide) (by decide) rfl
        · refine o_icmpN W416 (pc' := 385) (hb hy at_382) (XT.ii_ne_f hq417) rfl ?_
          refine o_aload W416 (pc' := 387) (hb hy at_385) rfl rfl rfl ?_
          refine o_astore W416 (L' := #[.val (.int p0), .val (.int p1), .val (.int p2), .val (.int p3), .val (.int 1), .val (.int 1), .val (.int (p2 &&& (255 : Int32))), .val (.ref b224), .val (.ref b232), .val (.ref b245), .val (.ref b254), .val (.ref b255), .val (.ref b263), .val (.ref b413), .val (.ref gO4), .val (.ref b232), .val (.ref gO4), .val (.int 9), .val (.int 101)]) (pc' := 389) (hb hy at_387) rfl rfl rfl ?_
          refine o_goto W416 (pc' := 395) (hb hy at_389) (by decide) rfl ?_
          refine o_goto W416 (pc' := 503) (hb hy at_395) (by decide) rfl ?_
          refine o_aload W416 (pc' := 505) (hb hy at_503) rfl rfl rfl ?_
          refine o_static W416 (y := (⟨"com/example/sessn/sessn/session/Weights", "labelled", "(Ljava/lang/String;)Lcom/example/sessn/sessn/session/Weights;"⟩ : MethodName)) (w34 hw) (w35 hw) (w2 hw) (w36 hw) (by decide) (argsL := [(.ref b413)]) (CtrN.back (Wd := 0) W416 (rm3 l Z a0 hw gCS gO1 gO2 gO4 gO6 gO8 gO9 gO10 gO11 gO12 gO13 k_gO2 k_gO9 k_gO11 k_gO13 b413 t416 kb416 [(112 : Int32), (114 : Int32), (101 : Int32), (118 : Int32), (45 : Int32), (99 : Int32), (117 : Int32), (114 : Int32), (114 : Int32), (p2 &&& (255 : Int32)), (110 : Int32), (116 : Int32)] h416 W416.old SgO2__VALUES VgO2 XgO2 FitgO2 FgO1_label SgCS NgCS XgO8 FgO8_value FgO8_coder VgO9 X416 Fv416 Fc416 B416 ok415 (own_eqN (by simp)) FgO4_label XgO10 FgO10_value FgO10_coder VgO11 (own_eqY (by simp [hq417])) FgO6_label XgO12 FgO12_value FgO12_coder VgO13 (own_eqN (by simp))) (w36 hw) (w2 hw) (by decide) (by decide)) (by rw [hml]; rfl) (lenOf pd3 rfl) (S := []) rfl (by exact Nat.le_of_eq rfl) (pc' := 508) (hb hy at_505) rfl (cells' := 9) (slots' := 64) rfl rfl (by decide) (by decide) (wy := []) (fun _ _ _ q => ⟨q.1, q.2.1⟩) all0 (fun _ _ => trivial) ?_
          intro v419 T419 h419 lo419 W419 K419 q419
          obtain rfl := q419.2.2
          show Gl _ _ _ _ _ _ _ _ [(.ref gO4)]
          refine o_aload W419 (pc' := 510) (hb hy at_508) rfl rfl rfl ?_
          refine o_acmpN W419 (pc' := 513) (hb hy at_510) rfl rfl (XT.aa_ne_f rfl) rfl ?_
          refine o_iconst W419 (v := 1) (pc' := 514) (hb hy at_513) rfl rfl ?_
          refine o_goto W419 (pc' := 518) (hb hy at_514) (by decide) rfl ?_
          exact o_retN W419 hlk (t := .boolean) hret (by simp) (z' := (1 : Int32)) (by decide) (hb hy at_518) (by decide) (by decide) rfl
      · refine o_irem W335 (v := 10) (pc' := 341) (hb hy at_340) (by decide) ek339 rfl ?_
        refine o_istore W335 (L' := #[.val (.int p0), .val (.int p1), .val (.int p2), .val (.int p3), .val (.int 1), .val (.int 1), .val (.int (p2 &&& (255 : Int32))), .val (.ref b224), .val (.ref b232), .val (.ref b245), .val (.ref b254), .val (.ref b255), .val (.ref b263), .unset, .unset, .val (.ref b232), .val (.ref gO4), .val (.int 10), .unset]) (pc' := 343) (hb hy at_341) rfl rfl ?_
        refine o_aload W335 (pc' := 345) (hb hy at_343) rfl rfl rfl ?_
        refine o_iload W335 (pc' := 347) (hb hy at_345) rfl rfl ?_
        refine o_caload W335 c338 (x := (110 : Int32)) (i := 10) (by decide) (by decide) (by decide) rfl (pc' := 348) (hb hy at_347) rfl ?_
        refine o_istore W335 (L' := #[.val (.int p0), .val (.int p1), .val (.int p2), .val (.int p3), .val (.int 1), .val (.int 1), .val (.int (p2 &&& (255 : Int32))), .val (.ref b224), .val (.ref b232), .val (.ref b245), .val (.ref b254), .val (.ref b255), .val (.ref b263), .unset, .unset, .val (.ref b232), .val (.ref gO4), .val (.int 10), .val (.int 110)]) (pc' := 350) (hb hy at_348) rfl rfl ?_
        refine o_iload W335 (pc' := 352) (hb hy at_350) rfl rfl ?_
        refine o_ifN W335 (pc' := 355) (hb hy at_352) (XT.i0_eq_f (by decide)) rfl ?_
        refine o_aload W335 (pc' := 357) (hb hy at_355) rfl rfl rfl ?_
        refine o_iload W335 (pc' := 359) (hb hy at_357) rfl rfl ?_
        refine o_iload W335 (pc' := 361) (hb hy at_359) rfl rfl ?_
        refine o_stC W335 c338 (i := 10) (x' := (p2 &&& (255 : Int32))) (by decide) (by decide) (by decide) (Nat.lt_of_sub_eq_succ rfl) (own_i2c (own_b255 _)) (vs' := [(.int 112), (.int 114), (.int 101), (.int 118), (.int 45), (.int 99), (.int 117), (.int 114), (.int 114), (.int 101), (.int (p2 &&& (255 : Int32))), (.int 116)]) rfl gz232 (Or.inr gb232) (fun _ _ => trivial) (pc' := 362) (hb hy at_361) rfl ?_
        intro T420 h420 lo420 W420 R420 V420
        refine o_new W420 (w5 hw) (w6 hw) (w7 hw) (fun _ _ => trivial) (pc' := 365) (hb hy at_362) rfl (cells' := 7) (slots' := 49) rfl rfl (by decide) (by decide) ?_
        intro b421 T421 h421 W421 E421 ge421 gz421 gb421 A421 D421
        have Fb421_coder : Fld Z h421 b421 "java/lang/String" "coder" "B" (.int 0) := D421 (Or.inr (w31 hw)) (ty := .byte) (by decide)
        have Fb421_value : Fld Z h421 b421 "java/lang/String" "value" "[B" .null := D421 (Or.inr (w33 hw)) (ty := (.array .byte)) (by decide)
        refine o_dup W421 (pc' := 366) (hb hy at_365) rfl rfl ?_
        refine o_aload W421 (pc' := 368) (hb hy at_366) rfl rfl rfl ?_
        have c422 := (V420.ext E421)
        have ok423 : own_ok [(112 : Int32), (114 : Int32), (101 : Int32), (118 : Int32), (45 : Int32), (99 : Int32), (117 : Int32), (114 : Int32), (114 : Int32), (101 : Int32), (p2 &&& (255 : Int32)), (116 : Int32)] := ⟨by simp only [List.mem_cons, List.not_mem_nil, or_false, forall_eq_or_imp, forall_eq, false_imp_iff, implies_true]; exact ⟨(by unfold own_b; decide), (by unfold own_b; decide), (by unfold own_b; decide), (by unfold own_b; decide), (by unfold own_b; decide), (by unfold own_b; decide), (by unfold own_b; decide), (by unfold own_b; decide), (by unfold own_b; decide), (by unfold own_b; decide), (own_b255 _), (by unfold own_b; decide)⟩, Nat.le_of_ble_eq_true rfl⟩
        refine o_special W421 (y := (⟨"java/lang/String", "<init>", "([C)V"⟩ : MethodName)) rfl (w8 hw) (w9 hw) (w10 hw) (by decide) (a := b421) (argsL := [(.ref b232)]) (StrChars.Road.backV (W := 1) W421.2.2.2.1 (own_hV hw) (kI := 4) (w6 hw) (cs := [(112 : Int32), (114 : Int32), (101 : Int32), (118 : Int32), (45 : Int32), (99 : Int32), (117 : Int32), (114 : Int32), (114 : Int32), (101 : Int32), (p2 &&& (255 : Int32)), (116 : Int32)]) (bs := [((112 : Int32)).toInt8.toInt32, ((114 : Int32)).toInt8.toInt32, ((101 : Int32)).toInt8.toInt32, ((118 : Int32)).toInt8.toInt32, ((45 : Int32)).toInt8.toInt32, ((99 : Int32)).toInt8.toInt32, ((117 : Int32)).toInt8.toInt32, ((114 : Int32)).toInt8.toInt32, ((114 : Int32)).toInt8.toInt32, ((101 : Int32)).toInt8.toInt32, ((p2 &&& (255 : Int32))).toInt8.toInt32, ((116 : Int32)).toInt8.toInt32]) (n := 12) (n0 := Z.heap.size) gz421 W421.zs A421 Fb421_value Fb421_coder c422 (SgCS.ext W421.ox) NgCS rfl rfl (by decide) (by decide) ok423.1 rfl (by decide) (by decide)) (by rw [hml]; rfl) (lenOf pd0 rfl) (S := [(.ref b421)]) rfl (by exact Nat.le_of_eq rfl) (pc' := 371) (hb hy at_368) rfl (cells' := 8) (slots' := 61) rfl rfl (by decide) (by decide) (wy := [b421]) (fun _ _ _ q => ⟨q.2.1, q.2.2.1⟩) (allS ⟨gz421, (Or.inr gb421)⟩ all0) (fun _ _ => trivial) ?_
        intro v424 T424 h424 lo424 W424 K424 q424
        obtain ⟨rfl, -, -, X424, Fc424, t424, kb424, gz424, ge424, -, Fv424, A424⟩ := q424
        have B424 : Arv Z h424 t424 kb424 .byte (12 : Int32) [(.int (StrChars.lo8 (112 : Int32))), (.int (StrChars.lo8 (114 : Int32))), (.int (StrChars.lo8 (101 : Int32))), (.int (StrChars.lo8 (118 : Int32))), (.int (StrChars.lo8 (45 : Int32))), (.int (StrChars.lo8 (99 : Int32))), (.int (StrChars.lo8 (117 : Int32))), (.int (StrChars.lo8 (114 : Int32))), (.int (StrChars.lo8 (114 : Int32))), (.int (StrChars.lo8 (101 : Int32))), (.int (StrChars.lo8 (p2 &&& (255 : Int32)))), (.int (StrChars.lo8 (116 : Int32)))] (.int 0) := A424
        show Gl _ _ _ _ _ _ _ _ [(.ref b421)]
        refine o_astore W424 (L' := #[.val (.int p0), .val (.int p1), .val (.int p2), .val (.int p3), .val (.int 1), .val (.int 1), .val (.int (p2 &&& (255 : Int32))), .val (.ref b224), .val (.ref b232), .val (.ref b245), .val (.ref b254), .val (.ref b255), .val (.ref b263), .val (.ref b421), .unset, .val (.ref b232), .val (.ref gO4), .val (.int 10), .val (.int 110)]) (pc' := 373) (hb hy at_371) rfl rfl rfl ?_
        refine o_iload W424 (pc' := 375) (hb hy at_373) rfl rfl ?_
        refine o_ifN W424 (pc' := 378) (hb hy at_375) (XT.i0_eq_f (by decide)) rfl ?_
        refine o_iload W424 (pc' := 380) (hb hy at_378) rfl rfl ?_
        refine o_iload W424 (pc' := 382) (hb hy at_380) rfl rfl ?_
        rcases (Classical.em ((p2 &&& (255 : Int32)) = (110 : Int32))).symm with hq425 | hq425
        · refine o_icmpY W424 (pc' := 392) (hb hy at_382) (XT.ii_ne_t hq425) (by decide) rfl ?_
          refine o_aconstNull W424 (pc' := 393) (hb hy at_392) rfl ?_
          refine o_astore W424 (L' := #[.val (.int p0), .val (.int p1), .val (.int p2), .val (.int p3), .val (.int 1), .val (.int 1), .val (.int (p2 &&& (255 : Int32))), .val (.ref b224), .val (.ref b232), .val (.ref b245), .val (.ref b254), .val (.ref b255), .val (.ref b263), .val (.ref b421), .val .null, .val (.ref b232), .val (.ref gO4), .val (.int 10), .val (.int 110)]) (pc' := 395) (hb hy at_393) rfl rfl rfl ?_
          refine o_goto W424 (pc' := 503) (hb hy at_395) (by decide) rfl ?_
          refine o_aload W424 (pc' := 505) (hb hy at_503) rfl rfl rfl ?_
          refine o_static W424 (y := (⟨"com/example/sessn/sessn/session/Weights", "labelled", "(Ljava/lang/String;)Lcom/example/sessn/sessn/session/Weights;"⟩ : MethodName)) (w34 hw) (w35 hw) (w2 hw) (w36 hw) (by decide) (argsL := [(.ref b421)]) (CtrN.back (Wd := 0) W424 (rm9 l Z a0 hw gCS gO1 gO2 gO4 gO6 gO8 gO9 gO10 gO11 gO12 gO13 k_gO2 k_gO9 k_gO11 k_gO13 b421 t424 kb424 [(112 : Int32), (114 : Int32), (101 : Int32), (118 : Int32), (45 : Int32), (99 : Int32), (117 : Int32), (114 : Int32), (114 : Int32), (101 : Int32), (p2 &&& (255 : Int32)), (116 : Int32)] h424 W424.old SgO2__VALUES VgO2 XgO2 FitgO2 FgO1_label SgCS NgCS XgO8 FgO8_value FgO8_coder VgO9 X424 Fv424 Fc424 B424 ok423 (own_eqN (by simp)) FgO4_label XgO10 FgO10_value FgO10_coder VgO11 (own_eqN (by simp [hq425, Ne.symm hq425])) FgO6_label XgO12 FgO12_value FgO12_coder VgO13 (own_eqN (by simp))) (w36 hw) (w2 hw) (by decide) (by decide)) (by rw [hml]; rfl) (lenOf pd3 rfl) (S := []) rfl (by exact Nat.le_of_eq rfl) (pc' := 508) (hb hy at_505) rfl (cells' := 9) (slots' := 64) rfl rfl (by decide) (by decide) (wy := []) (fun _ _ _ q => ⟨q.1, q.2.1⟩) all0 (fun _ _ => trivial) ?_
          intro v426 T426 h426 lo426 W426 K426 q426
          obtain rfl := q426.2.2
          show Gl _ _ _ _ _ _ _ _ [.null]
          refine o_aload W426 (pc' := 510) (hb hy at_508) rfl rfl rfl ?_
          refine o_acmpN W426 (pc' := 513) (hb hy at_510) rfl rfl (XT.aa_ne_f rfl) rfl ?_
          refine o_iconst W426 (v := 1) (pc' := 514) (hb hy at_513) rfl rfl ?_
          refine o_goto W426 (pc' := 518) (hb hy at_514) (by decide) rfl ?_
          exact o_retN W426 hlk (t := .boolean) hret (by simp) (z' := (1 : Int32)) (by decide) (hb hy at_518) (by decide) (by decide) rfl
        · refine o_icmpN W424 (pc' := 385) (hb hy at_382) (XT.ii_ne_f hq425) rfl ?_
          refine o_aload W424 (pc' := 387) (hb hy at_385) rfl rfl rfl ?_
          refine o_astore W424 (L' := #[.val (.int p0), .val (.int p1), .val (.int p2), .val (.int p3), .val (.int 1), .val (.int 1), .val (.int (p2 &&& (255 : Int32))), .val (.ref b224), .val (.ref b232), .val (.ref b245), .val (.ref b254), .val (.ref b255), .val (.ref b263), .val (.ref b421), .val (.ref gO4), .val (.ref b232), .val (.ref gO4), .val (.int 10), .val (.int 110)]) (pc' := 389) (hb hy at_387) rfl rfl rfl ?_
          refine o_goto W424 (pc' := 395) (hb hy at_389) (by decide) rfl ?_
          refine o_goto W424 (pc' := 503) (hb hy at_395) (by decide) rfl ?_
          refine o_aload W424 (pc' := 505) (hb hy at_503) rfl rfl rfl ?_
          refine o_static W424 (y := (⟨"com/example/sessn/sessn/session/Weights", "labelled", "(Ljava/lang/String;)Lcom/example/sessn/sessn/session/Weights;"⟩ : MethodName)) (w34 hw) (w35 hw) (w2 hw) (w36 hw) (by decide) (argsL := [(.ref b421)]) (CtrN.back (Wd := 0) W424 (rm3 l Z a0 hw gCS gO1 gO2 gO4 gO6 gO8 gO9 gO10 gO11 gO12 gO13 k_gO2 k_gO9 k_gO11 k_gO13 b421 t424 kb424 [(112 : Int32), (114 : Int32), (101 : Int32), (118 : Int32), (45 : Int32), (99 : Int32), (117 : Int32), (114 : Int32), (114 : Int32), (101 : Int32), (p2 &&& (255 : Int32)), (116 : Int32)] h424 W424.old SgO2__VALUES VgO2 XgO2 FitgO2 FgO1_label SgCS NgCS XgO8 FgO8_value FgO8_coder VgO9 X424 Fv424 Fc424 B424 ok423 (own_eqN (by simp)) FgO4_label XgO10 FgO10_value FgO10_coder VgO11 (own_eqY (by simp [hq425])) FgO6_label XgO12 FgO12_value FgO12_coder VgO13 (own_eqN (by simp))) (w36 hw) (w2 hw) (by decide) (by decide)) (by rw [hml]; rfl) (lenOf pd3 rfl) (S := []) rfl (by exact Nat.le_of_eq rfl) (pc' := 508) (hb hy at_505) rfl (cells' := 9) (slots' := 64) rfl rfl (by decide) (by decide) (wy := []) (fun _ _ _ q => ⟨q.1, q.2.1⟩) all0 (fun _ _ => trivial) ?_
          intro v427 T427 h427 lo427 W427 K427 q427
          obtain rfl := q427.2.2
          show Gl _ _ _ _ _ _ _ _ [(.ref gO4)]
          refine o_aload W427 (pc' := 510) (hb hy at_508) rfl rfl rfl ?_
          refine o_acmpN W427 (pc' := 513) (hb hy at_510) rfl rfl (XT.aa_ne_f rfl) rfl ?_
          refine o_iconst W427 (v := 1) (pc' := 514) (hb hy at_513) rfl rfl ?_
          refine o_goto W427 (pc' := 518) (hb hy at_514) (by decide) rfl ?_
          exact o_retN W427 hlk (t := .boolean) hret (by simp) (z' := (1 : Int32)) (by decide) (hb hy at_518) (by decide) (by decide) rfl
      · refine o_irem W335 (v := 11) (pc' := 341) (hb hy at_340) (by decide) ek339 rfl ?_
        refine o_istore W335 (L' := #[.val (.int p0), .val (.int p1), .val (.int p2), .val (.int p3), .val (.int 1), .val (.int 1), .val (.int (p2 &&& (255 : Int32))), .val (.ref b224), .val (.ref b232), .val (.ref b245), .val (.ref b254), .val (.ref b255), .val (.ref b263), .unset, .unset, .val (.ref b232), .val (.ref gO4), .val (.int 11), .unset]) (pc' := 343) (hb hy at_341) rfl rfl ?_
        refine o_aload W335 (pc' := 345) (hb hy at_343) rfl rfl rfl ?_
        refine o_iload W335 (pc' := 347) (hb hy at_345) rfl rfl ?_
        refine o_caload W335 c338 (x := (116 : Int32)) (i := 11) (by decide) (by decide) (by decide) rfl (pc' := 348) (hb hy at_347) rfl ?_
        refine o_istore W335 (L' := #[.val (.int p0), .val (.int p1), .val (.int p2), .val (.int p3), .val (.int 1), .val (.int 1), .val (.int (p2 &&& (255 : Int32))), .val (.ref b224), .val (.ref b232), .val (.ref b245), .val (.ref b254), .val (.ref b255), .val (.ref b263), .unset, .unset, .val (.ref b232), .val (.ref gO4), .val (.int 11), .val (.int 116)]) (pc' := 350) (hb hy at_348) rfl rfl ?_
        refine o_iload W335 (pc' := 352) (hb hy at_350) rfl rfl ?_
        refine o_ifN W335 (pc' := 355) (hb hy at_352) (XT.i0_eq_f (by decide)) rfl ?_
        refine o_aload W335 (pc' := 357) (hb hy at_355) rfl rfl rfl ?_
        refine o_iload W335 (pc' := 359) (hb hy at_357) rfl rfl ?_
        refine o_iload W335 (pc' := 361) (hb hy at_359) rfl rfl ?_
        refine o_stC W335 c338 (i := 11) (x' := (p2 &&& (255 : Int32))) (by decide) (by decide) (by decide) (Nat.lt_of_sub_eq_succ rfl) (own_i2c (own_b255 _)) (vs' := [(.int 112), (.int 114), (.int 101), (.int 118), (.int 45), (.int 99), (.int 117), (.int 114), (.int 114), (.int 101), (.int 110), (.int (p2 &&& (255 : Int32)))]) rfl gz232 (Or.inr gb232) (fun _ _ => trivial) (pc' := 362) (hb hy at_361) rfl ?_
        intro T428 h428 lo428 W428 R428 V428
        refine o_new W428 (w5 hw) (w6 hw) (w7 hw) (fun _ _ => trivial) (pc' := 365) (hb hy at_362) rfl (cells' := 7) (slots' := 49) rfl rfl (by decide) (by decide) ?_
        intro b429 T429 h429 W429 E429 ge429 gz429 gb429 A429 D429
        have Fb429_coder : Fld Z h429 b429 "java/lang/String" "coder" "B" (.int 0) := D429 (Or.inr (w31 hw)) (ty := .byte) (by decide)
        have Fb429_value : Fld Z h429 b429 "java/lang/String" "value" "[B" .null := D429 (Or.inr (w33 hw)) (ty := (.array .byte)) (by decide)
        refine o_dup W429 (pc' := 366) (hb hy at_365) rfl rfl ?_
        refine o_aload W429 (pc' := 368) (hb hy at_366) rfl rfl rfl ?_
        have c430 := (V428.ext E429)
        have ok431 : own_ok [(112 : Int32), (114 : Int32), (101 : Int32), (118 : Int32), (45 : Int32), (99 : Int32), (117 : Int32), (114 : Int32), (114 : Int32), (101 : Int32), (110 : Int32), (p2 &&& (255 : Int32))] := ⟨by simp only [List.mem_cons, List.not_mem_nil, or_false, forall_eq_or_imp, forall_eq, false_imp_iff, implies_true]; exact ⟨(by unfold own_b; decide), (by unfold own_b; decide), (by unfold own_b; decide), (by unfold own_b; decide), (by unfold own_b; decide), (by unfold own_b; decide), (by unfold own_b; decide), (by unfold own_b; decide), (by unfold own_b; decide), (by unfold own_b; decide), (by unfold own_b; decide), (own_b255 _)⟩, Nat.le_of_ble_eq_true rfl⟩
        refine o_special W429 (y := (⟨"java/lang/String", "<init>", "([C)V"⟩ : MethodName)) rfl (w8 hw) (w9 hw) (w10 hw) (by decide) (a := b429) (argsL := [(.ref b232)]) (StrChars.Road.backV (W := 1) W429.2.2.2.1 (own_hV hw) (kI := 4) (w6 hw) (cs := [(112 : Int32), (114 : Int32), (101 : Int32), (118 : Int32), (45 : Int32), (99 : Int32), (117 : Int32), (114 : Int32), (114 : Int32), (101 : Int32), (110 : Int32), (p2 &&& (255 : Int32))]) (bs := [((112 : Int32)).toInt8.toInt32, ((114 : Int32)).toInt8.toInt32, ((101 : Int32)).toInt8.toInt32, ((118 : Int32)).toInt8.toInt32, ((45 : Int32)).toInt8.toInt32, ((99 : Int32)).toInt8.toInt32, ((117 : Int32)).toInt8.toInt32, ((114 : Int32)).toInt8.toInt32, ((114 : Int32)).toInt8.toInt32, ((101 : Int32)).toInt8.toInt32, ((110 : Int32)).toInt8.toInt32, ((p2 &&& (255 : Int32))).toInt8.toInt32]) (n := 12) (n0 := Z.heap.size) gz429 W429.zs A429 Fb429_value Fb429_coder c430 (SgCS.ext W429.ox) NgCS rfl rfl (by decide) (by decide) ok431.1 rfl (by decide) (by decide)) (by rw [hml]; rfl) (lenOf pd0 rfl) (S := [(.ref b429)]) rfl (by exact Nat.le_of_eq rfl) (pc' := 371) (hb hy at_368) rfl (cells' := 8) (slots' := 61) rfl rfl (by decide) (by decide) (wy := [b429]) (fun _ _ _ q => ⟨q.2.1, q.2.2.1⟩) (allS ⟨gz429, (Or.inr gb429)⟩ all0) (fun _ _ => trivial) ?_
        intro v432 T432 h432 lo432 W432 K432 q432
        obtain ⟨rfl, -, -, X432, Fc432, t432, kb432, gz432, ge432, -, Fv432, A432⟩ := q432
        have B432 : Arv Z h432 t432 kb432 .byte (12 : Int32) [(.int (StrChars.lo8 (112 : Int32))), (.int (StrChars.lo8 (114 : Int32))), (.int (StrChars.lo8 (101 : Int32))), (.int (StrChars.lo8 (118 : Int32))), (.int (StrChars.lo8 (45 : Int32))), (.int (StrChars.lo8 (99 : Int32))), (.int (StrChars.lo8 (117 : Int32))), (.int (StrChars.lo8 (114 : Int32))), (.int (StrChars.lo8 (114 : Int32))), (.int (StrChars.lo8 (101 : Int32))), (.int (StrChars.lo8 (110 : Int32))), (.int (StrChars.lo8 (p2 &&& (255 : Int32))))] (.int 0) := A432
        show Gl _ _ _ _ _ _ _ _ [(.ref b429)]
        refine o_astore W432 (L' := #[.val (.int p0), .val (.int p1), .val (.int p2), .val (.int p3), .val (.int 1), .val (.int 1), .val (.int (p2 &&& (255 : Int32))), .val (.ref b224), .val (.ref b232), .val (.ref b245), .val (.ref b254), .val (.ref b255), .val (.ref b263), .val (.ref b429), .unset, .val (.ref b232), .val (.ref gO4), .val (.int 11), .val (.int 116)]) (pc' := 373) (hb hy at_371) rfl rfl rfl ?_
        refine o_iload W432 (pc' := 375) (hb hy at_373) rfl rfl ?_
        refine o_ifN W432 (pc' := 378) (hb hy at_375) (XT.i0_eq_f (by decide)) rfl ?_
        refine o_iload W432 (pc' := 380) (hb hy at_378) rfl rfl ?_
        refine o_iload W432 (pc' := 382) (hb hy at_380) rfl rfl ?_
        rcases (Classical.em ((p2 &&& (255 : Int32)) = (116 : Int32))).symm with hq433 | hq433
        · refine o_icmpY W432 (pc' := 392) (hb hy at_382) (XT.ii_ne_t hq433) (by decide) rfl ?_
          refine o_aconstNull W432 (pc' := 393) (hb hy at_392) rfl ?_
          refine o_astore W432 (L' := #[.val (.int p0), .val (.int p1), .val (.int p2), .val (.int p3), .val (.int 1), .val (.int 1), .val (.int (p2 &&& (255 : Int32))), .val (.ref b224), .val (.ref b232), .val (.ref b245), .val (.ref b254), .val (.ref b255), .val (.ref b263), .val (.ref b429), .val .null, .val (.ref b232), .val (.ref gO4), .val (.int 11), .val (.int 116)]) (pc' := 395) (hb hy at_393) rfl rfl rfl ?_
          refine o_goto W432 (pc' := 503) (hb hy at_395) (by decide) rfl ?_
          refine o_aload W432 (pc' := 505) (hb hy at_503) rfl rfl rfl ?_
          refine o_static W432 (y := (⟨"com/example/sessn/sessn/session/Weights", "labelled", "(Ljava/lang/String;)Lcom/example/sessn/sessn/session/Weights;"⟩ : MethodName)) (w34 hw) (w35 hw) (w2 hw) (w36 hw) (by decide) (argsL := [(.ref b429)]) (CtrN.back (Wd := 0) W432 (rm9 l Z a0 hw gCS gO1 gO2 gO4 gO6 gO8 gO9 gO10 gO11 gO12 gO13 k_gO2 k_gO9 k_gO11 k_gO13 b429 t432 kb432 [(112 : Int32), (114 : Int32), (101 : Int32), (118 : Int32), (45 : Int32), (99 : Int32), (117 : Int32), (114 : Int32), (114 : Int32), (101 : Int32), (110 : Int32), (p2 &&& (255 : Int32))] h432 W432.old SgO2__VALUES VgO2 XgO2 FitgO2 FgO1_label SgCS NgCS XgO8 FgO8_value FgO8_coder VgO9 X432 Fv432 Fc432 B432 ok431 (own_eqN (by simp)) FgO4_label XgO10 FgO10_value FgO10_coder VgO11 (own_eqN (by simp [hq433, Ne.symm hq433])) FgO6_label XgO12 FgO12_value FgO12_coder VgO13 (own_eqN (by simp))) (w36 hw) (w2 hw) (by decide) (by decide)) (by rw [hml]; rfl) (lenOf pd3 rfl) (S := []) rfl (by exact Nat.le_of_eq rfl) (pc' := 508) (hb hy at_505) rfl (cells' := 9) (slots' := 64) rfl rfl (by decide) (by decide) (wy := []) (fun _ _ _ q => ⟨q.1, q.2.1⟩) all0 (fun _ _ => trivial) ?_
          intro v434 T434 h434 lo434 W434 K434 q434
          obtain rfl := q434.2.2
          show Gl _ _ _ _ _ _ _ _ [.null]
          refine o_aload W434 (pc' := 510) (hb hy at_508) rfl rfl rfl ?_
          refine o_acmpN W434 (pc' := 513) (hb hy at_510) rfl rfl (XT.aa_ne_f rfl) rfl ?_
          refine o_iconst W434 (v := 1) (pc' := 514) (hb hy at_513) rfl rfl ?_
          refine o_goto W434 (pc' := 518) (hb hy at_514) (by decide) rfl ?_
          exact o_retN W434 hlk (t := .boolean) hret (by simp) (z' := (1 : Int32)) (by decide) (hb hy at_518) (by decide) (by decide) rfl
        · refine o_icmpN W432 (pc' := 385) (hb hy at_382) (XT.ii_ne_f hq433) rfl ?_
          refine o_aload W432 (pc' := 387) (hb hy at_385) rfl rfl rfl ?_
          refine o_astore W432 (L' := #[.val (.int p0), .val (.int p1), .val (.int p2), .val (.int p3), .val (.int 1), .val (.int 1), .val (.int (p2 &&& (255 : Int32))), .val (.ref b224), .val (.ref b232), .val (.ref b245), .val (.ref b254), .val (.ref b255), .val (.ref b263), .val (.ref b429), .val (.ref gO4), .val (.ref b232), .val (.ref gO4), .val (.int 11), .val (.int 116)]) (pc' := 389) (hb hy at_387) rfl rfl rfl ?_
          refine o_goto W432 (pc' := 395) (hb hy at_389) (by decide) rfl ?_
          refine o_goto W432 (pc' := 503) (hb hy at_395) (by decide) rfl ?_
          refine o_aload W432 (pc' := 505) (hb hy at_503) rfl rfl rfl ?_
          refine o_static W432 (y := (⟨"com/example/sessn/sessn/session/Weights", "labelled", "(Ljava/lang/String;)Lcom/example/sessn/sessn/session/Weights;"⟩ : MethodName)) (w34 hw) (w35 hw) (w2 hw) (w36 hw) (by decide) (argsL := [(.ref b429)]) (CtrN.back (Wd := 0) W432 (rm3 l Z a0 hw gCS gO1 gO2 gO4 gO6 gO8 gO9 gO10 gO11 gO12 gO13 k_gO2 k_gO9 k_gO11 k_gO13 b429 t432 kb432 [(112 : Int32), (114 : Int32), (101 : Int32), (118 : Int32), (45 : Int32), (99 : Int32), (117 : Int32), (114 : Int32), (114 : Int32), (101 : Int32), (110 : Int32), (p2 &&& (255 : Int32))] h432 W432.old SgO2__VALUES VgO2 XgO2 FitgO2 FgO1_label SgCS NgCS XgO8 FgO8_value FgO8_coder VgO9 X432 Fv432 Fc432 B432 ok431 (own_eqN (by simp)) FgO4_label XgO10 FgO10_value FgO10_coder VgO11 (own_eqY (by simp [hq433])) FgO6_label XgO12 FgO12_value FgO12_coder VgO13 (own_eqN (by simp))) (w36 hw) (w2 hw) (by decide) (by decide)) (by rw [hml]; rfl) (lenOf pd3 rfl) (S := []) rfl (by exact Nat.le_of_eq rfl) (pc' := 508) (hb hy at_505) rfl (cells' := 9) (slots' := 64) rfl rfl (by decide) (by decide) (wy := []) (fun _ _ _ q => ⟨q.1, q.2.1⟩) all0 (fun _ _ => trivial) ?_
          intro v435 T435 h435 lo435 W435 K435 q435
          obtain rfl := q435.2.2
          show Gl _ _ _ _ _ _ _ _ [(.ref gO4)]
          refine o_aload W435 (pc' := 510) (hb hy at_508) rfl rfl rfl ?_
          refine o_acmpN W435 (pc' := 513) (hb hy at_510) rfl rfl (XT.aa_ne_f rfl) rfl ?_
          refine o_iconst W435 (v := 1) (pc' := 514) (hb hy at_513) rfl rfl ?_
          refine o_goto W435 (pc' := 518) (hb hy at_514) (by decide) rfl ?_
          exact o_retN W435 hlk (t := .boolean) hret (by simp) (z' := (1 : Int32)) (by decide) (hb hy at_518) (by decide) (by decide) rfl
    · rw [ek272]
      refine o_iload W271 (pc' := 285) (hb hy at_283) rfl rfl ?_
      refine o_iconst W271 (v := 3) (pc' := 286) (hb hy at_285) rfl rfl ?_
      refine o_icmpN W271 (pc' := 289) (hb hy at_286) (XT.ii_ge_f (by decide)) rfl ?_
      refine o_iload W271 (pc' := 291) (hb hy at_289) rfl rfl ?_
      refine o_ifY W271 (pc' := 306) (hb hy at_291) (XT.i0_ne_t (by decide)) (by decide) rfl ?_
      refine o_iload W271 (pc' := 308) (hb hy at_306) rfl rfl ?_
      refine o_iconst W271 (v := 1) (pc' := 309) (hb hy at_308) rfl rfl ?_
      refine o_icmpY W271 (pc' := 324) (hb hy at_309) (XT.ii_ne_t (by decide)) (by decide) rfl ?_
      refine o_aload W271 (pc' := 326) (hb hy at_324) rfl rfl rfl ?_
      refine o_astore W271 (L' := #[.val (.int p0), .val (.int p1), .val (.int p2), .val (.int p3), .val (.int 2), .val (.int 1), .val (.int (p2 &&& (255 : Int32))), .val (.ref b224), .val (.ref b232), .val (.ref b245), .val (.ref b254), .val (.ref b255), .val (.ref b263), .unset, .unset, .val (.ref b245), .unset, .unset, .unset]) (pc' := 328) (hb hy at_326) rfl rfl rfl ?_
      refine o_getS W271 (w66 hw) Via.refl (SgO6_DISTANCE.ext W271.ox) (pc' := 331) (hb hy at_328) rfl ?_
      intro T436 W436
      refine o_astore W436 (L' := #[.val (.int p0), .val (.int p1), .val (.int p2), .val (.int p3), .val (.int 2), .val (.int 1), .val (.int (p2 &&& (255 : Int32))), .val (.ref b224), .val (.ref b232), .val (.ref b245), .val (.ref b254), .val (.ref b255), .val (.ref b263), .unset, .unset, .val (.ref b245), .val (.ref gO6), .unset, .unset]) (pc' := 333) (hb hy at_331) rfl rfl rfl ?_
      refine o_iloadN W436 (pc' := 334) (hb hy at_333) rfl rfl ?_
      refine o_ldcI W436 (w4 hw) (pc' := 336) (hb hy at_334) rfl ?_
      refine o_iand W436 (v := (p1 &&& (2147483647 : Int32))) (pc' := 337) (hb hy at_336) rfl rfl ?_
      refine o_aload W436 (pc' := 339) (hb hy at_337) rfl rfl rfl ?_
      have c437 := (V253.ext E254)
      have c438 := ((((((((c437.ext E255).other R256 (own_ne c437.lt ge255)).other R257 (own_ne c437.lt ge255)).other R258 (own_ne c437.lt ge255)).other R259 (own_ne c437.lt ge255)).other R260 (own_ne c437.lt ge255)).other R261 (own_ne c437.lt ge255)).other R262 (own_ne c437.lt ge255))
      have c439 := ((((((((((((((((((V253.ext E254).ext E255).other R256 (own_ne c437.lt ge255)).other R257 (own_ne c437.lt ge255)).other R258 (own_ne c437.lt ge255)).other R259 (own_ne c437.lt ge255)).other R260 (own_ne c437.lt ge255)).other R261 (own_ne c437.lt ge255)).other R262 (own_ne c437.lt ge255)).ext E263).other R264 (own_ne c438.lt ge263)).other R265 (own_ne c438.lt ge263)).other R266 (own_ne c438.lt ge263)).other R267 (own_ne c438.lt ge263)).other R268 (own_ne c438.lt ge263)).other R269 (own_ne c438.lt ge263)).other R270 (own_ne c438.lt ge263)).other R271 (own_ne c438.lt ge263))
      refine o_len W436 c439 (pc' := 340) (hb hy at_339) rfl ?_
      rcases own_rem8 p1 with ek440 | ek440 | ek440 | ek440 | ek440 | ek440 | ek440 | ek440
      · refine o_irem W436 (v := 0) (pc' := 341) (hb hy at_340) (by decide) ek440 rfl ?_
        refine o_istore W436 (L' := #[.val (.int p0), .val (.int p1), .val (.int p2), .val (.int p3), .val (.int 2), .val (.int 1), .val (.int (p2 &&& (255 : Int32))), .val (.ref b224), .val (.ref b232), .val (.ref b245), .val (.ref b254), .val (.ref b255), .val (.ref b263), .unset, .unset, .val (.ref b245), .val (.ref gO6), .val (.int 0), .unset]) (pc' := 343) (hb hy at_341) rfl rfl ?_
        refine o_aload W436 (pc' := 345) (hb hy at_343) rfl rfl rfl ?_
        refine o_iload W436 (pc' := 347) (hb hy at_345) rfl rfl ?_
        refine o_caload W436 c439 (x := (100 : Int32)) (i := 0) (by decide) (by decide) (by decide) rfl (pc' := 348) (hb hy at_347) rfl ?_
        refine o_istore W436 (L' := #[.val (.int p0), .val (.int p1), .val (.int p2), .val (.int p3), .val (.int 2), .val (.int 1), .val (.int (p2 &&& (255 : Int32))), .val (.ref b224), .val (.ref b232), .val (.ref b245), .val (.ref b254), .val (.ref b255), .val (.ref b263), .unset, .unset, .val (.ref b245), .val (.ref gO6), .val (.int 0), .val (.int 100)]) (pc' := 350) (hb hy at_348) rfl rfl ?_
        refine o_iload W436 (pc' := 352) (hb hy at_350) rfl rfl ?_
        refine o_ifN W436 (pc' := 355) (hb hy at_352) (XT.i0_eq_f (by decide)) rfl ?_
        refine o_aload W436 (pc' := 357) (hb hy at_355) rfl rfl rfl ?_
        refine o_iload W436 (pc' := 359) (hb hy at_357) rfl rfl ?_
        refine o_iload W436 (pc' := 361) (hb hy at_359) rfl rfl ?_
        refine o_stC W436 c439 (i := 0) (x' := (p2 &&& (255 : Int32))) (by decide) (by decide) (by decide) (Nat.lt_of_sub_eq_succ rfl) (own_i2c (own_b255 _)) (vs' := [(.int (p2 &&& (255 : Int32))), (.int 105), (.int 115), (.int 116), (.int 97), (.int 110), (.int 99), (.int 101)]) rfl gz245 (Or.inr gb245) (fun _ _ => trivial) (pc' := 362) (hb hy at_361) rfl ?_
        intro T441 h441 lo441 W441 R441 V441
        refine o_new W441 (w5 hw) (w6 hw) (w7 hw) (fun _ _ => trivial) (pc' := 365) (hb hy at_362) rfl (cells' := 7) (slots' := 49) rfl rfl (by decide) (by decide) ?_
        intro b442 T442 h442 W442 E442 ge442 gz442 gb442 A442 D442
        have Fb442_coder : Fld Z h442 b442 "java/lang/String" "coder" "B" (.int 0) := D442 (Or.inr (w31 hw)) (ty := .byte) (by decide)
        have Fb442_value : Fld Z h442 b442 "java/lang/String" "value" "[B" .null := D442 (Or.inr (w33 hw)) (ty := (.array .byte)) (by decide)
        refine o_dup W442 (pc' := 366) (hb hy at_365) rfl rfl ?_
        refine o_aload W442 (pc' := 368) (hb hy at_366) rfl rfl rfl ?_
        have c443 := (V441.ext E442)
        have ok444 : own_ok [(p2 &&& (255 : Int32)), (105 : Int32), (115 : Int32), (116 : Int32), (97 : Int32), (110 : Int32), (99 : Int32), (101 : Int32)] := ⟨by simp only [List.mem_cons, List.not_mem_nil, or_false, forall_eq_or_imp, forall_eq, false_imp_iff, implies_true]; exact ⟨(own_b255 _), (by unfold own_b; decide), (by unfold own_b; decide), (by unfold own_b; decide), (by unfold own_b; decide), (by unfold own_b; decide), (by unfold own_b; decide), (by unfold own_b; decide)⟩, Nat.le_of_ble_eq_true rfl⟩
        refine o_special W442 (y := (⟨"java/lang/String", "<init>", "([C)V"⟩ : MethodName)) rfl (w8 hw) (w9 hw) (w10 hw) (by decide) (a := b442) (argsL := [(.ref b245)]) (StrChars.Road.backV (W := 1) W442.2.2.2.1 (own_hV hw) (kI := 4) (w6 hw) (cs := [(p2 &&& (255 : Int32)), (105 : Int32), (115 : Int32), (116 : Int32), (97 : Int32), (110 : Int32), (99 : Int32), (101 : Int32)]) (bs := [((p2 &&& (255 : Int32))).toInt8.toInt32, ((105 : Int32)).toInt8.toInt32, ((115 : Int32)).toInt8.toInt32, ((116 : Int32)).toInt8.toInt32, ((97 : Int32)).toInt8.toInt32, ((110 : Int32)).toInt8.toInt32, ((99 : Int32)).toInt8.toInt32, ((101 : Int32)).toInt8.toInt32]) (n := 8) (n0 := Z.heap.size) gz442 W442.zs A442 Fb442_value Fb442_coder c443 (SgCS.ext W442.ox) NgCS rfl rfl (by decide) (by decide) ok444.1 rfl (by decide) (by decide)) (by rw [hml]; rfl) (lenOf pd0 rfl) (S := [(.ref b442)]) rfl (by exact Nat.le_of_eq rfl) (pc' := 371) (hb hy at_368) rfl (cells' := 8) (slots' := 57) rfl rfl (by decide) (by decide) (wy := [b442]) (fun _ _ _ q => ⟨q.2.1, q.2.2.1⟩) (allS ⟨gz442, (Or.inr gb442)⟩ all0) (fun _ _ => trivial) ?_
        intro v445 T445 h445 lo445 W445 K445 q445
        obtain ⟨rfl, -, -, X445, Fc445, t445, kb445, gz445, ge445, -, Fv445, A445⟩ := q445
        have B445 : Arv Z h445 t445 kb445 .byte (8 : Int32) [(.int (StrChars.lo8 (p2 &&& (255 : Int32)))), (.int (StrChars.lo8 (105 : Int32))), (.int (StrChars.lo8 (115 : Int32))), (.int (StrChars.lo8 (116 : Int32))), (.int (StrChars.lo8 (97 : Int32))), (.int (StrChars.lo8 (110 : Int32))), (.int (StrChars.lo8 (99 : Int32))), (.int (StrChars.lo8 (101 : Int32)))] (.int 0) := A445
        show Gl _ _ _ _ _ _ _ _ [(.ref b442)]
        refine o_astore W445 (L' := #[.val (.int p0), .val (.int p1), .val (.int p2), .val (.int p3), .val (.int 2), .val (.int 1), .val (.int (p2 &&& (255 : Int32))), .val (.ref b224), .val (.ref b232), .val (.ref b245), .val (.ref b254), .val (.ref b255), .val (.ref b263), .val (.ref b442), .unset, .val (.ref b245), .val (.ref gO6), .val (.int 0), .val (.int 100)]) (pc' := 373) (hb hy at_371) rfl rfl rfl ?_
        refine o_iload W445 (pc' := 375) (hb hy at_373) rfl rfl ?_
        refine o_ifN W445 (pc' := 378) (hb hy at_375) (XT.i0_eq_f (by decide)) rfl ?_
        refine o_iload W445 (pc' := 380) (hb hy at_378) rfl rfl ?_
        refine o_iload W445 (pc' := 382) (hb hy at_380) rfl rfl ?_
        rcases (Classical.em ((p2 &&& (255 : Int32)) = (100 : Int32))).symm with hq446 | hq446
        · refine o_icmpY W445 (pc' := 392) (hb hy at_382) (XT.ii_ne_t hq446) (by decide) rfl ?_
          refine o_aconstNull W445 (pc' := 393) (hb hy at_392) rfl ?_
          refine o_astore W445 (L' := #[.val (.int p0), .val (.int p1), .val (.int p2), .val (.int p3), .val (.int 2), .val (.int 1), .val (.int (p2 &&& (255 : Int32))), .val (.ref b224), .val (.ref b232), .val (.ref b245), .val (.ref b254), .val (.ref b255), .val (.ref b263), .val (.ref b442), .val .null, .val (.ref b245), .val (.ref gO6), .val (.int 0), .val (.int 100)]) (pc' := 395) (hb hy at_393) rfl rfl rfl ?_
          refine o_goto W445 (pc' := 503) (hb hy at_395) (by decide) rfl ?_
          refine o_aload W445 (pc' := 505) (hb hy at_503) rfl rfl rfl ?_
          refine o_static W445 (y := (⟨"com/example/sessn/sessn/session/Weights", "labelled", "(Ljava/lang/String;)Lcom/example/sessn/sessn/session/Weights;"⟩ : MethodName)) (w34 hw) (w35 hw) (w2 hw) (w36 hw) (by decide) (argsL := [(.ref b442)]) (CtrN.back (Wd := 0) W445 (rm9 l Z a0 hw gCS gO1 gO2 gO4 gO6 gO8 gO9 gO10 gO11 gO12 gO13 k_gO2 k_gO9 k_gO11 k_gO13 b442 t445 kb445 [(p2 &&& (255 : Int32)), (105 : Int32), (115 : Int32), (116 : Int32), (97 : Int32), (110 : Int32), (99 : Int32), (101 : Int32)] h445 W445.old SgO2__VALUES VgO2 XgO2 FitgO2 FgO1_label SgCS NgCS XgO8 FgO8_value FgO8_coder VgO9 X445 Fv445 Fc445 B445 ok444 (own_eqN (by simp)) FgO4_label XgO10 FgO10_value FgO10_coder VgO11 (own_eqN (by simp)) FgO6_label XgO12 FgO12_value FgO12_coder VgO13 (own_eqN (by simp [hq446, Ne.symm hq446]))) (w36 hw) (w2 hw) (by decide) (by decide)) (by rw [hml]; rfl) (lenOf pd3 rfl) (S := []) rfl (by exact Nat.le_of_eq rfl) (pc' := 508) (hb hy at_505) rfl (cells' := 9) (slots' := 60) rfl rfl (by decide) (by decide) (wy := []) (fun _ _ _ q => ⟨q.1, q.2.1⟩) all0 (fun _ _ => trivial) ?_
          intro v447 T447 h447 lo447 W447 K447 q447
          obtain rfl := q447.2.2
          show Gl _ _ _ _ _ _ _ _ [.null]
          refine o_aload W447 (pc' := 510) (hb hy at_508) rfl rfl rfl ?_
          refine o_acmpN W447 (pc' := 513) (hb hy at_510) rfl rfl (XT.aa_ne_f rfl) rfl ?_
          refine o_iconst W447 (v := 1) (pc' := 514) (hb hy at_513) rfl rfl ?_
          refine o_goto W447 (pc' := 518) (hb hy at_514) (by decide) rfl ?_
          exact o_retN W447 hlk (t := .boolean) hret (by simp) (z' := (1 : Int32)) (by decide) (hb hy at_518) (by decide) (by decide) rfl
        · refine o_icmpN W445 (pc' := 385) (hb hy at_382) (XT.ii_ne_f hq446) rfl ?_
          refine o_aload W445 (pc' := 387) (hb hy at_385) rfl rfl rfl ?_
          refine o_astore W445 (L' := #[.val (.int p0), .val (.int p1), .val (.int p2), .val (.int p3), .val (.int 2), .val (.int 1), .val (.int (p2 &&& (255 : Int32))), .val (.ref b224), .val (.ref b232), .val (.ref b245), .val (.ref b254), .val (.ref b255), .val (.ref b263), .val (.ref b442), .val (.ref gO6), .val (.ref b245), .val (.ref gO6), .val (.int 0), .val (.int 100)]) (pc' := 389) (hb hy at_387) rfl rfl rfl ?_
          refine o_goto W445 (pc' := 395) (hb hy at_389) (by decide) rfl ?_
          refine o_goto W445 (pc' := 503) (hb hy at_395) (by decide) rfl ?_
          refine o_aload W445 (pc' := 505) (hb hy at_503) rfl rfl rfl ?_
          refine o_static W445 (y := (⟨"com/example/sessn/sessn/session/Weights", "labelled", "(Ljava/lang/String;)Lcom/example/sessn/sessn/session/Weights;"⟩ : MethodName)) (w34 hw) (w35 hw) (w2 hw) (w36 hw) (by decide) (argsL := [(.ref b442)]) (CtrN.back (Wd := 0) W445 (rm4 l Z a0 hw gCS gO1 gO2 gO4 gO6 gO8 gO9 gO10 gO11 gO12 gO13 k_gO2 k_gO9 k_gO11 k_gO13 b442 t445 kb445 [(p2 &&& (255 : Int32)), (105 : Int32), (115 : Int32), (116 : Int32), (97 : Int32), (110 : Int32), (99 : Int32), (101 : Int32)] h445 W445.old SgO2__VALUES VgO2 XgO2 FitgO2 FgO1_label SgCS NgCS XgO8 FgO8_value FgO8_coder VgO9 X445 Fv445 Fc445 B445 ok444 (own_eqN (by simp)) FgO4_label XgO10 FgO10_value FgO10_coder VgO11 (own_eqN (by simp)) FgO6_label XgO12 FgO12_value FgO12_coder VgO13 (own_eqY (by simp [hq446]))) (w36 hw) (w2 hw) (by decide) (by decide)) (by rw [hml]; rfl) (lenOf pd3 rfl) (S := []) rfl (by exact Nat.le_of_eq rfl) (pc' := 508) (hb hy at_505) rfl (cells' := 9) (slots' := 60) rfl rfl (by decide) (by decide) (wy := []) (fun _ _ _ q => ⟨q.1, q.2.1⟩) all0 (fun _ _ => trivial) ?_
          intro v448 T448 h448 lo448 W448 K448 q448
          obtain rfl := q448.2.2
          show Gl _ _ _ _ _ _ _ _ [(.ref gO6)]
          refine o_aload W448 (pc' := 510) (hb hy at_508) rfl rfl rfl ?_
          refine o_acmpN W448 (pc' := 513) (hb hy at_510) rfl rfl (XT.aa_ne_f rfl) rfl ?_
          refine o_iconst W448 (v := 1) (pc' := 514) (hb hy at_513) rfl rfl ?_
          refine o_goto W448 (pc' := 518) (hb hy at_514) (by decide) rfl ?_
          exact o_retN W448 hlk (t := .boolean) hret (by simp) (z' := (1 : Int32)) (by decide) (hb hy at_518) (by decide) (by decide) rfl
      · refine o_irem W436 (v := 1) (pc' := 341) (hb hy at_340) (by decide) ek440 rfl ?_
        refine o_istore W436 (L' := #[.val (.int p0), .val (.int p1), .val (.int p2), .val (.int p3), .val (.int 2), .val (.int 1), .val (.int (p2 &&& (255 : Int32))), .val (.ref b224), .val (.ref b232), .val (.ref b245), .val (.ref b254), .val (.ref b255), .val (.ref b263), .unset, .unset, .val (.ref b245), .val (.ref gO6), .val (.int 1), .unset]) (pc' := 343) (hb hy at_341) rfl rfl ?_
        refine o_aload W436 (pc' := 345) (hb hy at_343) rfl rfl rfl ?_
        refine o_iload W436 (pc' := 347) (hb hy at_345) rfl rfl ?_
        refine o_caload W436 c439 (x := (105 : Int32)) (i := 1) (by decide) (by decide) (by decide) rfl (pc' := 348) (hb hy at_347) rfl ?_
        refine o_istore W436 (L' := #[.val (.int p0), .val (.int p1), .val (.int p2), .val (.int p3), .val (.int 2), .val (.int 1), .val (.int (p2 &&& (255 : Int32))), .val (.ref b224), .val (.ref b232), .val (.ref b245), .val (.ref b254), .val (.ref b255), .val (.ref b263), .unset, .unset, .val (.ref b245), .val (.ref gO6), .val (.int 1), .val (.int 105)]) (pc' := 350) (hb hy at_348) rfl rfl ?_
        refine o_iload W436 (pc' := 352) (hb hy at_350) rfl rfl ?_
        refine o_ifN W436 (pc' := 355) (hb hy at_352) (XT.i0_eq_f (by decide)) rfl ?_
        refine o_aload W436 (pc' := 357) (hb hy at_355) rfl rfl rfl ?_
        refine o_iload W436 (pc' := 359) (hb hy at_357) rfl rfl ?_
        refine o_iload W436 (pc' := 361) (hb hy at_359) rfl rfl ?_
        refine o_stC W436 c439 (i := 1) (x' := (p2 &&& (255 : Int32))) (by decide) (by decide) (by decide) (Nat.lt_of_sub_eq_succ rfl) (own_i2c (own_b255 _)) (vs' := [(.int 100), (.int (p2 &&& (255 : Int32))), (.int 115), (.int 116), (.int 97), (.int 110), (.int 99), (.int 101)]) rfl gz245 (Or.inr gb245) (fun _ _ => trivial) (pc' := 362) (hb hy at_361) rfl ?_
        intro T449 h449 lo449 W449 R449 V449
        refine o_new W449 (w5 hw) (w6 hw) (w7 hw) (fun _ _ => trivial) (pc' := 365) (hb hy at_362) rfl (cells' := 7) (slots' := 49) rfl rfl (by decide) (by decide) ?_
        intro b450 T450 h450 W450 E450 ge450 gz450 gb450 A450 D450
        have Fb450_coder : Fld Z h450 b450 "java/lang/String" "coder" "B" (.int 0) := D450 (Or.inr (w31 hw)) (ty := .byte) (by decide)
        have Fb450_value : Fld Z h450 b450 "java/lang/String" "value" "[B" .null := D450 (Or.inr (w33 hw)) (ty := (.array .byte)) (by decide)
        refine o_dup W450 (pc' := 366) (hb hy at_365) rfl rfl ?_
        refine o_aload W450 (pc' := 368) (hb hy at_366) rfl rfl rfl ?_
        have c451 := (V449.ext E450)
        have ok452 : own_ok [(100 : Int32), (p2 &&& (255 : Int32)), (115 : Int32), (116 : Int32), (97 : Int32), (110 : Int32), (99 : Int32), (101 : Int32)] := ⟨by simp only [List.mem_cons, List.not_mem_nil, or_false, forall_eq_or_imp, forall_eq, false_imp_iff, implies_true]; exact ⟨(by unfold own_b; decide), (own_b255 _), (by unfold own_b; decide), (by unfold own_b; decide), (by unfold own_b; decide), (by unfold own_b; decide), (by unfold own_b; decide), (by unfold own_b; decide)⟩, Nat.le_of_ble_eq_true rfl⟩
        refine o_special W450 (y := (⟨"java/lang/String", "<init>", "([C)V"⟩ : MethodName)) rfl (w8 hw) (w9 hw) (w10 hw) (by decide) (a := b450) (argsL := [(.ref b245)]) (StrChars.Road.backV (W := 1) W450.2.2.2.1 (own_hV hw) (kI := 4) (w6 hw) (cs := [(100 : Int32), (p2 &&& (255 : Int32)), (115 : Int32), (116 : Int32), (97 : Int32), (110 : Int32), (99 : Int32), (101 : Int32)]) (bs := [((100 : Int32)).toInt8.toInt32, ((p2 &&& (255 : Int32))).toInt8.toInt32, ((115 : Int32)).toInt8.toInt32, ((116 : Int32)).toInt8.toInt32, ((97 : Int32)).toInt8.toInt32, ((110 : Int32)).toInt8.toInt32, ((99 : Int32)).toInt8.toInt32, ((101 : Int32)).toInt8.toInt32]) (n := 8) (n0 := Z.heap.size) gz450 W450.zs A450 Fb450_value Fb450_coder c451 (SgCS.ext W450.ox) NgCS rfl rfl (by decide) (by decide) ok452.1 rfl (by decide) (by decide)) (by rw [hml]; rfl) (lenOf pd0 rfl) (S := [(.ref b450)]) rfl (by exact Nat.le_of_eq rfl) (pc' := 371) (hb hy at_368) rfl (cells' := 8) (slots' := 57) rfl rfl (by decide) (by decide) (wy := [b450]) (fun _ _ _ q => ⟨q.2.1, q.2.2.1⟩) (allS ⟨gz450, (Or.inr gb450)⟩ all0) (fun _ _ => trivial) ?_
        intro v453 T453 h453 lo453 W453 K453 q453
        obtain ⟨rfl, -, -, X453, Fc453, t453, kb453, gz453, ge453, -, Fv453, A453⟩ := q453
        have B453 : Arv Z h453 t453 kb453 .byte (8 : Int32) [(.int (StrChars.lo8 (100 : Int32))), (.int (StrChars.lo8 (p2 &&& (255 : Int32)))), (.int (StrChars.lo8 (115 : Int32))), (.int (StrChars.lo8 (116 : Int32))), (.int (StrChars.lo8 (97 : Int32))), (.int (StrChars.lo8 (110 : Int32))), (.int (StrChars.lo8 (99 : Int32))), (.int (StrChars.lo8 (101 : Int32)))] (.int 0) := A453
        show Gl _ _ _ _ _ _ _ _ [(.ref b450)]
        refine o_astore W453 (L' := #[.val (.int p0), .val (.int p1), .val (.int p2), .val (.int p3), .val (.int 2), .val (.int 1), .val (.int (p2 &&& (255 : Int32))), .val (.ref b224), .val (.ref b232), .val (.ref b245), .val (.ref b254), .val (.ref b255), .val (.ref b263), .val (.ref b450), .unset, .val (.ref b245), .val (.ref gO6), .val (.int 1), .val (.int 105)]) (pc' := 373) (hb hy at_371) rfl rfl rfl ?_
        refine o_iload W453 (pc' := 375) (hb hy at_373) rfl rfl ?_
        refine o_ifN W453 (pc' := 378) (hb hy at_375) (XT.i0_eq_f (by decide)) rfl ?_
        refine o_iload W453 (pc' := 380) (hb hy at_378) rfl rfl ?_
        refine o_iload W453 (pc' := 382) (hb hy at_380) rfl rfl ?_
        rcases (Classical.em ((p2 &&& (255 : Int32)) = (105 : Int32))).symm with hq454 | hq454
        · refine o_icmpY W453 (pc' := 392) (hb hy at_382) (XT.ii_ne_t hq454) (by decide) rfl ?_
          refine o_aconstNull W453 (pc' := 393) (hb hy at_392) rfl ?_
          refine o_astore W453 (L' := #[.val (.int p0), .val (.int p1), .val (.int p2), .val (.int p3), .val (.int 2), .val (.int 1), .val (.int (p2 &&& (255 : Int32))), .val (.ref b224), .val (.ref b232), .val (.ref b245), .val (.ref b254), .val (.ref b255), .val (.ref b263), .val (.ref b450), .val .null, .val (.ref b245), .val (.ref gO6), .val (.int 1), .val (.int 105)]) (pc' := 395) (hb hy at_393) rfl rfl rfl ?_
          refine o_goto W453 (pc' := 503) (hb hy at_395) (by decide) rfl ?_
          refine o_aload W453 (pc' := 505) (hb hy at_503) rfl rfl rfl ?_
          refine o_static W453 (y := (⟨"com/example/sessn/sessn/session/Weights", "labelled", "(Ljava/lang/String;)Lcom/example/sessn/sessn/session/Weights;"⟩ : MethodName)) (w34 hw) (w35 hw) (w2 hw) (w36 hw) (by decide) (argsL := [(.ref b450)]) (CtrN.back (Wd := 0) W453 (rm9 l Z a0 hw gCS gO1 gO2 gO4 gO6 gO8 gO9 gO10 gO11 gO12 gO13 k_gO2 k_gO9 k_gO11 k_gO13 b450 t453 kb453 [(100 : Int32), (p2 &&& (255 : Int32)), (115 : Int32), (116 : Int32), (97 : Int32), (110 : Int32), (99 : Int32), (101 : Int32)] h453 W453.old SgO2__VALUES VgO2 XgO2 FitgO2 FgO1_label SgCS NgCS XgO8 FgO8_value FgO8_coder VgO9 X453 Fv453 Fc453 B453 ok452 (own_eqN (by simp)) FgO4_label XgO10 FgO10_value FgO10_coder VgO11 (own_eqN (by simp)) FgO6_label XgO12 FgO12_value FgO12_coder VgO13 (own_eqN (by simp [hq454, Ne.symm hq454]))) (w36 hw) (w2 hw) (by decide) (by decide)) (by rw [hml]; rfl) (lenOf pd3 rfl) (S := []) rfl (by exact Nat.le_of_eq rfl) (pc' := 508) (hb hy at_505) rfl (cells' := 9) (slots' := 60) rfl rfl (by decide) (by decide) (wy := []) (fun _ _ _ q => ⟨q.1, q.2.1⟩) all0 (fun _ _ => trivial) ?_
          intro v455 T455 h455 lo455 W455 K455 q455
          obtain rfl := q455.2.2
          show Gl _ _ _ _ _ _ _ _ [.null]
          refine o_aload W455 (pc' := 510) (hb hy at_508) rfl rfl rfl ?_
          refine o_acmpN W455 (pc' := 513) (hb hy at_510) rfl rfl (XT.aa_ne_f rfl) rfl ?_
          refine o_iconst W455 (v := 1) (pc' := 514) (hb hy at_513) rfl rfl ?_
          refine o_goto W455 (pc' := 518) (hb hy at_514) (by decide) rfl ?_
          exact o_retN W455 hlk (t := .boolean) hret (by simp) (z' := (1 : Int32)) (by decide) (hb hy at_518) (by decide) (by decide) rfl
        · refine o_icmpN W453 (pc' := 385) (hb hy at_382) (XT.ii_ne_f hq454) rfl ?_
          refine o_aload W453 (pc' := 387) (hb hy at_385) rfl rfl rfl ?_
          refine o_astore W453 (L' := #[.val (.int p0), .val (.int p1), .val (.int p2), .val (.int p3), .val (.int 2), .val (.int 1), .val (.int (p2 &&& (255 : Int32))), .val (.ref b224), .val (.ref b232), .val (.ref b245), .val (.ref b254), .val (.ref b255), .val (.ref b263), .val (.ref b450), .val (.ref gO6), .val (.ref b245), .val (.ref gO6), .val (.int 1), .val (.int 105)]) (pc' := 389) (hb hy at_387) rfl rfl rfl ?_
          refine o_goto W453 (pc' := 395) (hb hy at_389) (by decide) rfl ?_
          refine o_goto W453 (pc' := 503) (hb hy at_395) (by decide) rfl ?_
          refine o_aload W453 (pc' := 505) (hb hy at_503) rfl rfl rfl ?_
          refine o_static W453 (y := (⟨"com/example/sessn/sessn/session/Weights", "labelled", "(Ljava/lang/String;)Lcom/example/sessn/sessn/session/Weights;"⟩ : MethodName)) (w34 hw) (w35 hw) (w2 hw) (w36 hw) (by decide) (argsL := [(.ref b450)]) (CtrN.back (Wd := 0) W453 (rm4 l Z a0 hw gCS gO1 gO2 gO4 gO6 gO8 gO9 gO10 gO11 gO12 gO13 k_gO2 k_gO9 k_gO11 k_gO13 b450 t453 kb453 [(100 : Int32), (p2 &&& (255 : Int32)), (115 : Int32), (116 : Int32), (97 : Int32), (110 : Int32), (99 : Int32), (101 : Int32)] h453 W453.old SgO2__VALUES VgO2 XgO2 FitgO2 FgO1_label SgCS NgCS XgO8 FgO8_value FgO8_coder VgO9 X453 Fv453 Fc453 B453 ok452 (own_eqN (by simp)) FgO4_label XgO10 FgO10_value FgO10_coder VgO11 (own_eqN (by simp)) FgO6_label XgO12 FgO12_value FgO12_coder VgO13 (own_eqY (by simp [hq454]))) (w36 hw) (w2 hw) (by decide) (by decide)) (by rw [hml]; rfl) (lenOf pd3 rfl) (S := []) rfl (by exact Nat.le_of_eq rfl) (pc' := 508) (hb hy at_505) rfl (cells' := 9) (slots' := 60) rfl rfl (by decide) (by decide) (wy := []) (fun _ _ _ q => ⟨q.1, q.2.1⟩) all0 (fun _ _ => trivial) ?_
          intro v456 T456 h456 lo456 W456 K456 q456
          obtain rfl := q456.2.2
          show Gl _ _ _ _ _ _ _ _ [(.ref gO6)]
          refine o_aload W456 (pc' := 510) (hb hy at_508) rfl rfl rfl ?_
          refine o_acmpN W456 (pc' := 513) (hb hy at_510) rfl rfl (XT.aa_ne_f rfl) rfl ?_
          refine o_iconst W456 (v := 1) (pc' := 514) (hb hy at_513) rfl rfl ?_
          refine o_goto W456 (pc' := 518) (hb hy at_514) (by decide) rfl ?_
          exact o_retN W456 hlk (t := .boolean) hret (by simp) (z' := (1 : Int32)) (by decide) (hb hy at_518) (by decide) (by decide) rfl
      · refine o_irem W436 (v := 2) (pc' := 341) (hb hy at_340) (by decide) ek440 rfl ?_
        refine o_istore W436 (L' := #[.val (.int p0), .val (.int p1), .val (.int p2), .val (.int p3), .val (.int 2), .val (.int 1), .val (.int (p2 &&& (255 : Int32))), .val (.ref b224), .val (.ref b232), .val (.ref b245), .val (.ref b254), .val (.ref b255), .val (.ref b263), .unset, .unset, .val (.ref b245), .val (.ref gO6), .val (.int 2), .unset]) (pc' := 343) (hb hy at_341) rfl rfl ?_
        refine o_aload W436 (pc' := 345) (hb hy at_343) rfl rfl rfl ?_
        refine o_iload W436 (pc' := 347) (hb hy at_345) rfl rfl ?_
        refine o_caload W436 c439 (x := (115 : Int32)) (i := 2) (by decide) (by decide) (by decide) rfl (pc' := 348) (hb hy at_347) rfl ?_
        refine o_istore W436 (L' := #[.val (.int p0), .val (.int p1), .val (.int p2), .val (.int p3), .val (.int 2), .val (.int 1), .val (.int (p2 &&& (255 : Int32))), .val (.ref b224), .val (.ref b232), .val (.ref b245), .val (.ref b254), .val (.ref b255), .val (.ref b263), .unset, .unset, .val (.ref b245), .val (.ref gO6), .val (.int 2), .val (.int 115)]) (pc' := 350) (hb hy at_348) rfl rfl ?_
        refine o_iload W436 (pc' := 352) (hb hy at_350) rfl rfl ?_
        refine o_ifN W436 (pc' := 355) (hb hy at_352) (XT.i0_eq_f (by decide)) rfl ?_
        refine o_aload W436 (pc' := 357) (hb hy at_355) rfl rfl rfl ?_
        refine o_iload W436 (pc' := 359) (hb hy at_357) rfl rfl ?_
        refine o_iload W436 (pc' := 361) (hb hy at_359) rfl rfl ?_
        refine o_stC W436 c439 (i := 2) (x' := (p2 &&& (255 : Int32))) (by decide) (by decide) (by decide) (Nat.lt_of_sub_eq_succ rfl) (own_i2c (own_b255 _)) (vs' := [(.int 100), (.int 105), (.int (p2 &&& (255 : Int32))), (.int 116), (.int 97), (.int 110), (.int 99), (.int 101)]) rfl gz245 (Or.inr gb245) (fun _ _ => trivial) (pc' := 362) (hb hy at_361) rfl ?_
        intro T457 h457 lo457 W457 R457 V457
        refine o_new W457 (w5 hw) (w6 hw) (w7 hw) (fun _ _ => trivial) (pc' := 365) (hb hy at_362) rfl (cells' := 7) (slots' := 49) rfl rfl (by decide) (by decide) ?_
        intro b458 T458 h458 W458 E458 ge458 gz458 gb458 A458 D458
        have Fb458_coder : Fld Z h458 b458 "java/lang/String" "coder" "B" (.int 0) := D458 (Or.inr (w31 hw)) (ty := .byte) (by decide)
        have Fb458_value : Fld Z h458 b458 "java/lang/String" "value" "[B" .null := D458 (Or.inr (w33 hw)) (ty := (.array .byte)) (by decide)
        refine o_dup W458 (pc' := 366) (hb hy at_365) rfl rfl ?_
        refine o_aload W458 (pc' := 368) (hb hy at_366) rfl rfl rfl ?_
        have c459 := (V457.ext E458)
        have ok460 : own_ok [(100 : Int32), (105 : Int32), (p2 &&& (255 : Int32)), (116 : Int32), (97 : Int32), (110 : Int32), (99 : Int32), (101 : Int32)] := ⟨by simp only [List.mem_cons, List.not_mem_nil, or_false, forall_eq_or_imp, forall_eq, false_imp_iff, implies_true]; exact ⟨(by unfold own_b; decide), (by unfold own_b; decide), (own_b255 _), (by unfold own_b; decide), (by unfold own_b; decide), (by unfold own_b; decide), (by unfold own_b; decide), (by unfold own_b; decide)⟩, Nat.le_of_ble_eq_true rfl⟩
        refine o_special W458 (y := (⟨"java/lang/String", "<init>", "([C)V"⟩ : MethodName)) rfl (w8 hw) (w9 hw) (w10 hw) (by decide) (a := b458) (argsL := [(.ref b245)]) (StrChars.Road.backV (W := 1) W458.2.2.2.1 (own_hV hw) (kI := 4) (w6 hw) (cs := [(100 : Int32), (105 : Int32), (p2 &&& (255 : Int32)), (116 : Int32), (97 : Int32), (110 : Int32), (99 : Int32), (101 : Int32)]) (bs := [((100 : Int32)).toInt8.toInt32, ((105 : Int32)).toInt8.toInt32, ((p2 &&& (255 : Int32))).toInt8.toInt32, ((116 : Int32)).toInt8.toInt32, ((97 : Int32)).toInt8.toInt32, ((110 : Int32)).toInt8.toInt32, ((99 : Int32)).toInt8.toInt32, ((101 : Int32)).toInt8.toInt32]) (n := 8) (n0 := Z.heap.size) gz458 W458.zs A458 Fb458_value Fb458_coder c459 (SgCS.ext W458.ox) NgCS rfl rfl (by decide) (by decide) ok460.1 rfl (by decide) (by decide)) (by rw [hml]; rfl) (lenOf pd0 rfl) (S := [(.ref b458)]) rfl (by exact Nat.le_of_eq rfl) (pc' := 371) (hb hy at_368) rfl (cells' := 8) (slots' := 57) rfl rfl (by decide) (by decide) (wy := [b458]) (fun _ _ _ q => ⟨q.2.1, q.2.2.1⟩) (allS ⟨gz458, (Or.inr gb458)⟩ all0) (fun _ _ => trivial) ?_
        intro v461 T461 h461 lo461 W461 K461 q461
        obtain ⟨rfl, -, -, X461, Fc461, t461, kb461, gz461, ge461, -, Fv461, A461⟩ := q461
        have B461 : Arv Z h461 t461 kb461 .byte (8 : Int32) [(.int (StrChars.lo8 (100 : Int32))), (.int (StrChars.lo8 (105 : Int32))), (.int (StrChars.lo8 (p2 &&& (255 : Int32)))), (.int (StrChars.lo8 (116 : Int32))), (.int (StrChars.lo8 (97 : Int32))), (.int (StrChars.lo8 (110 : Int32))), (.int (StrChars.lo8 (99 : Int32))), (.int (StrChars.lo8 (101 : Int32)))] (.int 0) := A461
        show Gl _ _ _ _ _ _ _ _ [(.ref b458)]
        refine o_astore W461 (L' := #[.val (.int p0), .val (.int p1), .val (.int p2), .val (.int p3), .val (.int 2), .val (.int 1), .val (.int (p2 &&& (255 : Int32))), .val (.ref b224), .val (.ref b232), .val (.ref b245), .val (.ref b254), .val (.ref b255), .val (.ref b263), .val (.ref b458), .unset, .val (.ref b245), .val (.ref gO6), .val (.int 2), .val (.int 115)]) (pc' := 373) (hb hy at_371) rfl rfl rfl ?_
        refine o_iload W461 (pc' := 375) (hb hy at_373) rfl rfl ?_
        refine o_ifN W461 (pc' := 378) (hb hy at_375) (XT.i0_eq_f (by decide)) rfl ?_
        refine o_iload W461 (pc' := 380) (hb hy at_378) rfl rfl ?_
        refine o_iload W461 (pc' := 382) (hb hy at_380) rfl rfl ?_
        rcases (Classical.em ((p2 &&& (255 : Int32)) = (115 : Int32))).symm with hq462 | hq462
        · refine o_icmpY W461 (pc' := 392) (hb hy at_382) (XT.ii_ne_t hq462) (by decide) rfl ?_
          refine o_aconstNull W461 (pc' := 393) (hb hy at_392) rfl ?_
          refine o_astore W461 (L' := #[.val (.int p0), .val (.int p1), .val (.int p2), .val (.int p3), .val (.int 2), .val (.int 1), .val (.int (p2 &&& (255 : Int32))), .val (.ref b224), .val (.ref b232), .val (.ref b245), .val (.ref b254), .val (.ref b255), .val (.ref b263), .val (.ref b458), .val .null, .val (.ref b245), .val (.ref gO6), .val (.int 2), .val (.int 115)]) (pc' := 395) (hb hy at_393) rfl rfl rfl ?_
          refine o_goto W461 (pc' := 503) (hb hy at_395) (by decide) rfl ?_
          refine o_aload W461 (pc' := 505) (hb hy at_503) rfl rfl rfl ?_
          refine o_static W461 (y := (⟨"com/example/sessn/sessn/session/Weights", "labelled", "(Ljava/lang/String;)Lcom/example/sessn/sessn/session/Weights;"⟩ : MethodName)) (w34 hw) (w35 hw) (w2 hw) (w36 hw) (by decide) (argsL := [(.ref b458)]) (CtrN.back (Wd := 0) W461 (rm9 l Z a0 hw gCS gO1 gO2 gO4 gO6 gO8 gO9 gO10 gO11 gO12 gO13 k_gO2 k_gO9 k_gO11 k_gO13 b458 t461 kb461 [(100 : Int32), (105 : Int32), (p2 &&& (255 : Int32)), (116 : Int32), (97 : Int32), (110 : Int32), (99 : Int32), (101 : Int32)] h461 W461.old SgO2__VALUES VgO2 XgO2 FitgO2 FgO1_label SgCS NgCS XgO8 FgO8_value FgO8_coder VgO9 X461 Fv461 Fc461 B461 ok460 (own_eqN (by simp)) FgO4_label XgO10 FgO10_value FgO10_coder VgO11 (own_eqN (by simp)) FgO6_label XgO12 FgO12_value FgO12_coder VgO13 (own_eqN (by simp [hq462, Ne.symm hq462]))) (w36 hw) (w2 hw) (by decide) (by decide)) (by rw [hml]; rfl) (lenOf pd3 rfl) (S := []) rfl (by exact Nat.le_of_eq rfl) (pc' := 508) (hb hy at_505) rfl (cells' := 9) (slots' := 60) rfl rfl (by decide) (by decide) (wy := []) (fun _ _ _ q => ⟨q.1, q.2.1⟩) all0 (fun _ _ => trivial) ?_
          intro v463 T463 h463 lo463 W463 K463 q463
          obtain rfl := q463.2.2
          show Gl _ _ _ _ _ _ _ _ [.null]
          refine o_aload W463 (pc' := 510) (hb hy at_508) rfl rfl rfl ?_
          refine o_acmpN W463 (pc' := 513) (hb hy at_510) rfl rfl (XT.aa_ne_f rfl) rfl ?_
          refine o_iconst W463 (v := 1) (pc' := 514) (hb hy at_513) rfl rfl ?_
          refine o_goto W463 (pc' := 518) (hb hy at_514) (by decide) rfl ?_
          exact o_retN W463 hlk (t := .boolean) hret (by simp) (z' := (1 : Int32)) (by decide) (hb hy at_518) (by decide) (by decide) rfl
        · refine o_icmpN W461 (pc' := 385) (hb hy at_382) (XT.ii_ne_f hq462) rfl ?_
          refine o_aload W461 (pc' := 387) (hb hy at_385) rfl rfl rfl ?_
          refine o_astore W461 (L' := #[.val (.int p0), .val (.int p1), .val (.int p2), .val (.int p3), .val (.int 2), .val (.int 1), .val (.int (p2 &&& (255 : Int32))), .val (.ref b224), .val (.ref b232), .val (.ref b245), .val (.ref b254), .val (.ref b255), .val (.ref b263), .val (.ref b458), .val (.ref gO6), .val (.ref b245), .val (.ref gO6), .val (.int 2), .val (.int 115)]) (pc' := 389) (hb hy at_387) rfl rfl rfl ?_
          refine o_goto W461 (pc' := 395) (hb hy at_389) (by decide) rfl ?_
          refine o_goto W461 (pc' := 503) (hb hy at_395) (by decide) rfl ?_
          refine o_aload W461 (pc' := 505) (hb hy at_503) rfl rfl rfl ?_
          refine o_static W461 (y := (⟨"com/example/sessn/sessn/session/Weights", "labelled", "(Ljava/lang/String;)Lcom/example/sessn/sessn/session/Weights;"⟩ : MethodName)) (w34 hw) (w35 hw) (w2 hw) (w36 hw) (by decide) (argsL := [(.ref b458)]) (CtrN.back (Wd := 0) W461 (rm4 l Z a0 hw gCS gO1 gO2 gO4 gO6 gO8 gO9 gO10 gO11 gO12 gO13 k_gO2 k_gO9 k_gO11 k_gO13 b458 t461 kb461 [(100 : Int32), (105 : Int32), (p2 &&& (255 : Int32)), (116 : Int32), (97 : Int32), (110 : Int32), (99 : Int32), (101 : Int32)] h461 W461.old SgO2__VALUES VgO2 XgO2 FitgO2 FgO1_label SgCS NgCS XgO8 FgO8_value FgO8_coder VgO9 X461 Fv461 Fc461 B461 ok460 (own_eqN (by simp)) FgO4_label XgO10 FgO10_value FgO10_coder VgO11 (own_eqN (by simp)) FgO6_label XgO12 FgO12_value FgO12_coder VgO13 (own_eqY (by simp [hq462]))) (w36 hw) (w2 hw) (by decide) (by decide)) (by rw [hml]; rfl) (lenOf pd3 rfl) (S := []) rfl (by exact Nat.le_of_eq rfl) (pc' := 508) (hb hy at_505) rfl (cells' := 9) (slots' := 60) rfl rfl (by decide) (by decide) (wy := []) (fun _ _ _ q => ⟨q.1, q.2.1⟩) all0 (fun _ _ => trivial) ?_
          intro v464 T464 h464 lo464 W464 K464 q464
          obtain rfl := q464.2.2
          show Gl _ _ _ _ _ _ _ _ [(.ref gO6)]
          refine o_aload W464 (pc' := 510) (hb hy at_508) rfl rfl rfl ?_
          refine o_acmpN W464 (pc' := 513) (hb hy at_510) rfl rfl (XT.aa_ne_f rfl) rfl ?_
          refine o_iconst W464 (v := 1) (pc' := 514) (hb hy at_513) rfl rfl ?_
          refine o_goto W464 (pc' := 518) (hb hy at_514) (by decide) rfl ?_
          exact o_retN W464 hlk (t := .boolean) hret (by simp) (z' := (1 : Int32)) (by decide) (hb hy at_518) (by decide) (by decide) rfl
      · refine o_irem W436 (v := 3) (pc' := 341) (hb hy at_340) (by decide) ek440 rfl ?_
        refine o_istore W436 (L' := #[.val (.int p0), .val (.int p1), .val (.int p2), .val (.int p3), .val (.int 2), .val (.int 1), .val (.int (p2 &&& (255 : Int32))), .val (.ref b224), .val (.ref b232), .val (.ref b245), .val (.ref b254), .val (.ref b255), .val (.ref b263), .unset, .unset, .val (.ref b245), .val (.ref gO6), .val (.int 3), .unset]) (pc' := 343) (hb hy at_341) rfl rfl ?_
        refine o_aload W436 (pc' := 345) (hb hy at_343) rfl rfl rfl ?_
        refine o_iload W436 (pc' := 347) (hb hy at_345) rfl rfl ?_
        refine o_caload W436 c439 (x := (116 : Int32)) (i := 3) (by decide) (by decide) (by decide) rfl (pc' := 348) (hb hy at_347) rfl ?_
        refine o_istore W436 (L' := #[.val (.int p0), .val (.int p1), .val (.int p2), .val (.int p3), .val (.int 2), .val (.int 1), .val (.int (p2 &&& (255 : Int32))), .val (.ref b224), .val (.ref b232), .val (.ref b245), .val (.ref b254), .val (.ref b255), .val (.ref b263), .unset, .unset, .val (.ref b245), .val (.ref gO6), .val (.int 3), .val (.int 116)]) (pc' := 350) (hb hy at_348) rfl rfl ?_
        refine o_iload W436 (pc' := 352) (hb hy at_350) rfl rfl ?_
        refine o_ifN W436 (pc' := 355) (hb hy at_352) (XT.i0_eq_f (by decide)) rfl ?_
        refine o_aload W436 (pc' := 357) (hb hy at_355) rfl rfl rfl ?_
        refine o_iload W436 (pc' := 359) (hb hy at_357) rfl rfl ?_
        refine o_iload W436 (pc' := 361) (hb hy at_359) rfl rfl ?_
        refine o_stC W436 c439 (i := 3) (x' := (p2 &&& (255 : Int32))) (by decide) (by decide) (by decide) (Nat.lt_of_sub_eq_succ rfl) (own_i2c (own_b255 _)) (vs' := [(.int 100), (.int 105), (.int 115), (.int (p2 &&& (255 : Int32))), (.int 97), (.int 110), (.int 99), (.int 101)]) rfl gz245 (Or.inr gb245) (fun _ _ => trivial) (pc' := 362) (hb hy at_361) rfl ?_
        intro T465 h465 lo465 W465 R465 V465
        refine o_new W465 (w5 hw) (w6 hw) (w7 hw) (fun _ _ => trivial) (pc' := 365) (hb hy at_362) rfl (cells' := 7) (slots' := 49) rfl rfl (by decide) (by decide) ?_
        intro b466 T466 h466 W466 E466 ge466 gz466 gb466 A466 D466
        have Fb466_coder : Fld Z h466 b466 "java/lang/String" "coder" "B" (.int 0) := D466 (Or.inr (w31 hw)) (ty := .byte) (by decide)
        have Fb466_value : Fld Z h466 b466 "java/lang/String" "value" "[B" .null := D466 (Or.inr (w33 hw)) (ty := (.array .byte)) (by decide)
        refine o_dup W466 (pc' := 366) (hb hy at_365) rfl rfl ?_
        refine o_aload W466 (pc' := 368) (hb hy at_366) rfl rfl rfl ?_
        have c467 := (V465.ext E466)
        have ok468 : own_ok [(100 : Int32), (105 : Int32), (115 : Int32), (p2 &&& (255 : Int32)), (97 : Int32), (110 : Int32), (99 : Int32), (101 : Int32)] := ⟨by simp only [List.mem_cons, List.not_mem_nil, or_false, forall_eq_or_imp, forall_eq, false_imp_iff, implies_true]; exact ⟨(by unfold own_b; decide), (by unfold own_b; decide), (by unfold own_b; decide), (own_b255 _), (by unfold own_b; decide), (by unfold own_b; decide), (by unfold own_b; decide), (by unfold own_b; decide)⟩, Nat.le_of_ble_eq_true rfl⟩
        refine o_special W466 (y := (⟨"java/lang/String", "<init>", "([C)V"⟩ : MethodName)) rfl (w8 hw) (w9 hw) (w10 hw) (by decide) (a := b466) (argsL := [(.ref b245)]) (StrChars.Road.backV (W := 1) W466.2.2.2.1 (own_hV hw) (kI := 4) (w6 hw) (cs := [(100 : Int32), (105 : Int32), (115 : Int32), (p2 &&& (255 : Int32)), (97 : Int32), (110 : Int32), (99 : Int32), (101 : Int32)]) (bs := [((100 : Int32)).toInt8.toInt32, ((105 : Int32)).toInt8.toInt32, ((115 : Int32)).toInt8.toInt32, ((p2 &&& (255 : Int32))).toInt8.toInt32, ((97 : Int32)).toInt8.toInt32, ((110 : Int32)).toInt8.toInt32, ((99 : Int32)).toInt8.toInt32, ((101 : Int32)).toInt8.toInt32]) (n := 8) (n0 := Z.heap.size) gz466 W466.zs A466 Fb466_value Fb466_coder c467 (SgCS.ext W466.ox) NgCS rfl rfl (by decide) (by decide) ok468.1 rfl (by decide) (by decide)) (by rw [hml]; rfl) (lenOf pd0 rfl) (S := [(.ref b466)]) rfl (by exact Nat.le_of_eq rfl) (pc' := 371) (hb hy at_368) rfl (cells' := 8) (slots' := 57) rfl rfl (by decide) (by decide) (wy := [b466]) (fun _ _ _ q => ⟨q.2.1, q.2.2.1⟩) (allS ⟨gz466, (Or.inr gb466)⟩ all0) (fun _ _ => trivial) ?_
        intro v469 T469 h469 lo469 W469 K469 q469
        obtain ⟨rfl, -, -, X469, Fc469, t469, kb469, gz469, ge469, -, Fv469, A469⟩ := q469
        have B469 : Arv Z h469 t469 kb469 .byte (8 : Int32) [(.int (StrChars.lo8 (100 : Int32))), (.int (StrChars.lo8 (105 : Int32))), (.int (StrChars.lo8 (115 : Int32))), (.int (StrChars.lo8 (p2 &&& (255 : Int32)))), (.int (StrChars.lo8 (97 : Int32))), (.int (StrChars.lo8 (110 : Int32))), (.int (StrChars.lo8 (99 : Int32))), (.int (StrChars.lo8 (101 : Int32)))] (.int 0) := A469
        show Gl _ _ _ _ _ _ _ _ [(.ref b466)]
        refine o_astore W469 (L' := #[.val (.int p0), .val (.int p1), .val (.int p2), .val (.int p3), .val (.int 2), .val (.int 1), .val (.int (p2 &&& (255 : Int32))), .val (.ref b224), .val (.ref b232), .val (.ref b245), .val (.ref b254), .val (.ref b255), .val (.ref b263), .val (.ref b466), .unset, .val (.ref b245), .val (.ref gO6), .val (.int 3), .val (.int 116)]) (pc' := 373) (hb hy at_371) rfl rfl rfl ?_
        refine o_iload W469 (pc' := 375) (hb hy at_373) rfl rfl ?_
        refine o_ifN W469 (pc' := 378) (hb hy at_375) (XT.i0_eq_f (by decide)) rfl ?_
        refine o_iload W469 (pc' := 380) (hb hy at_378) rfl rfl ?_
        refine o_iload W469 (pc' := 382) (hb hy at_380) rfl rfl ?_
        rcases (Classical.em ((p2 &&& (255 : Int32)) = (116 : Int32))).symm with hq470 | hq470
        · refine o_icmpY W469 (pc' := 392) (hb hy at_382) (XT.ii_ne_t hq470) (by decide) rfl ?_
          refine o_aconstNull W469 (pc' := 393) (hb hy at_392) rfl ?_
          refine o_astore W469 (L' := #[.val (.int p0), .val (.int p1), .val (.int p2), .val (.int p3), .val (.int 2), .val (.int 1), .val (.int (p2 &&& (255 : Int32))), .val (.ref b224), .val (.ref b232), .val (.ref b245), .val (.ref b254), .val (.ref b255), .val (.ref b263), .val (.ref b466), .val .null, .val (.ref b245), .val (.ref gO6), .val (.int 3), .val (.int 116)]) (pc' := 395) (hb hy at_393) rfl rfl rfl ?_
          refine o_goto W469 (pc' := 503) (hb hy at_395) (by decide) rfl ?_
          refine o_aload W469 (pc' := 505) (hb hy at_503) rfl rfl rfl ?_
          refine o_static W469 (y := (⟨"com/example/sessn/sessn/session/Weights", "labelled", "(Ljava/lang/String;)Lcom/example/sessn/sessn/session/Weights;"⟩ : MethodName)) (w34 hw) (w35 hw) (w2 hw) (w36 hw) (by decide) (argsL := [(.ref b466)]) (CtrN.back (Wd := 0) W469 (rm9 l Z a0 hw gCS gO1 gO2 gO4 gO6 gO8 gO9 gO10 gO11 gO12 gO13 k_gO2 k_gO9 k_gO11 k_gO13 b466 t469 kb469 [(100 : Int32), (105 : Int32), (115 : Int32), (p2 &&& (255 : Int32)), (97 : Int32), (110 : Int32), (99 : Int32), (101 : Int32)] h469 W469.old SgO2__VALUES VgO2 XgO2 FitgO2 FgO1_label SgCS NgCS XgO8 FgO8_value FgO8_coder VgO9 X469 Fv469 Fc469 B469 ok468 (own_eqN (by simp)) FgO4_label XgO10 FgO10_value FgO10_coder VgO11 (own_eqN (by simp)) FgO6_label XgO12 FgO12_value FgO12_coder VgO13 (own_eqN (by simp [hq470, Ne.symm hq470]))) (w36 hw) (w2 hw) (by decide) (by decide)) (by rw [hml]; rfl) (lenOf pd3 rfl) (S := []) rfl (by exact Nat.le_of_eq rfl) (pc' := 508) (hb hy at_505) rfl (cells' := 9) (slots' := 60) rfl rfl (by decide) (by decide) (wy := []) (fun _ _ _ q => ⟨q.1, q.2.1⟩) all0 (fun _ _ => trivial) ?_
          intro v471 T471 h471 lo471 W471 K471 q471
          obtain rfl := q471.2.2
          show Gl _ _ _ _ _ _ _ _ [.null]
          refine o_aload W471 (pc' := 510) (hb hy at_508) rfl rfl rfl ?_
          refine o_acmpN W471 (pc' := 513) (hb hy at_510) rfl rfl (XT.aa_ne_f rfl) rfl ?_
          refine o_iconst W471 (v := 1) (pc' := 514) (hb hy at_513) rfl rfl ?_
          refine o_goto W471 (pc' := 518) (hb hy at_514) (by decide) rfl ?_
          exact o_retN W471 hlk (t := .boolean) hret (by simp) (z' := (1 : Int32)) (by decide) (hb hy at_518) (by decide) (by decide) rfl
        · refine o_icmpN W469 (pc' := 385) (hb hy at_382) (XT.ii_ne_f hq470) rfl ?_
          refine o_aload W469 (pc' := 387) (hb hy at_385) rfl rfl rfl ?_
          refine o_astore W469 (L' := #[.val (.int p0), .val (.int p1), .val (.int p2), .val (.int p3), .val (.int 2), .val (.int 1), .val (.int (p2 &&& (255 : Int32))), .val (.ref b224), .val (.ref b232), .val (.ref b245), .val (.ref b254), .val (.ref b255), .val (.ref b263), .val (.ref b466), .val (.ref gO6), .val (.ref b245), .val (.ref gO6), .val (.int 3), .val (.int 116)]) (pc' := 389) (hb hy at_387) rfl rfl rfl ?_
          refine o_goto W469 (pc' := 395) (hb hy at_389) (by decide) rfl ?_
          refine o_goto W469 (pc' := 503) (hb hy at_395) (by decide) rfl ?_
          refine o_aload W469 (pc' := 505) (hb hy at_503) rfl rfl rfl ?_
          refine o_static W469 (y := (⟨"com/example/sessn/sessn/session/Weights", "labelled", "(Ljava/lang/String;)Lcom/example/sessn/sessn/session/Weights;"⟩ : MethodName)) (w34 hw) (w35 hw) (w2 hw) (w36 hw) (by decide) (argsL := [(.ref b466)]) (CtrN.back (Wd := 0) W469 (rm4 l Z a0 hw gCS gO1 gO2 gO4 gO6 gO8 gO9 gO10 gO11 gO12 gO13 k_gO2 k_gO9 k_gO11 k_gO13 b466 t469 kb469 [(100 : Int32), (105 : Int32), (115 : Int32), (p2 &&& (255 : Int32)), (97 : Int32), (110 : Int32), (99 : Int32), (101 : Int32)] h469 W469.old SgO2__VALUES VgO2 XgO2 FitgO2 FgO1_label SgCS NgCS XgO8 FgO8_value FgO8_coder VgO9 X469 Fv469 Fc469 B469 ok468 (own_eqN (by simp)) FgO4_label XgO10 FgO10_value FgO10_coder VgO11 (own_eqN (by simp)) FgO6_label XgO12 FgO12_value FgO12_coder VgO13 (own_eqY (by simp [hq470]))) (w36 hw) (w2 hw) (by decide) (by decide)) (by rw [hml]; rfl) (lenOf pd3 rfl) (S := []) rfl (by exact Nat.le_of_eq rfl) (pc' := 508) (hb hy at_505) rfl (cells' := 9) (slots' := 60) rfl rfl (by decide) (by decide) (wy := []) (fun _ _ _ q => ⟨q.1, q.2.1⟩) all0 (fun _ _ => trivial) ?_
          intro v472 T472 h472 lo472 W472 K472 q472
          obtain rfl := q472.2.2
          show Gl _ _ _ _ _ _ _ _ [(.ref gO6)]
          refine o_aload W472 (pc' := 510) (hb hy at_508) rfl rfl rfl ?_
          refine o_acmpN W472 (pc' := 513) (hb hy at_510) rfl rfl (XT.aa_ne_f rfl) rfl ?_
          refine o_iconst W472 (v := 1) (pc' := 514) (hb hy at_513) rfl rfl ?_
          refine o_goto W472 (pc' := 518) (hb hy at_514) (by decide) rfl ?_
          exact o_retN W472 hlk (t := .boolean) hret (by simp) (z' := (1 : Int32)) (by decide) (hb hy at_518) (by decide) (by decide) rfl
      · refine o_irem W436 (v := 4) (pc' := 341) (hb hy at_340) (by decide) ek440 rfl ?_
        refine o_istore W436 (L' := #[.val (.int p0), .val (.int p1), .val (.int p2), .val (.int p3), .val (.int 2), .val (.int 1), .val (.int (p2 &&& (255 : Int32))), .val (.ref b224), .val (.ref b232), .val (.ref b245), .val (.ref b254), .val (.ref b255), .val (.ref b263), .unset, .unset, .val (.ref b245), .val (.ref gO6), .val (.int 4), .unset]) (pc' := 343) (hb hy at_341) rfl rfl ?_
        refine o_aload W436 (pc' := 345) (hb hy at_343) rfl rfl rfl ?_
        refine o_iload W436 (pc' := 347) (hb hy at_345) rfl rfl ?_
        refine o_caload W436 c439 (x := (97 : Int32)) (i := 4) (by decide) (by decide) (by decide) rfl (pc' := 348) (hb hy at_347) rfl ?_
        refine o_istore W436 (L' := #[.val (.int p0), .val (.int p1), .val (.int p2), .val (.int p3), .val (.int 2), .val (.int 1), .val (.int (p2 &&& (255 : Int32))), .val (.ref b224), .val (.ref b232), .val (.ref b245), .val (.ref b254), .val (.ref b255), .val (.ref b263), .unset, .unset, .val (.ref b245), .val (.ref gO6), .val (.int 4), .val (.int 97)]) (pc' := 350) (hb hy at_348) rfl rfl ?_
        refine o_iload W436 (pc' := 352) (hb hy at_350) rfl rfl ?_
        refine o_ifN W436 (pc' := 355) (hb hy at_352) (XT.i0_eq_f (by decide)) rfl ?_
        refine o_aload W436 (pc' := 357) (hb hy at_355) rfl rfl rfl ?_
        refine o_iload W436 (pc' := 359) (hb hy at_357) rfl rfl ?_
        refine o_iload W436 (pc' := 361) (hb hy at_359) rfl rfl ?_
        refine o_stC W436 c439 (i := 4) (x' := (p2 &&& (255 : Int32))) (by decide) (by decide) (by decide) (Nat.lt_of_sub_eq_succ rfl) (own_i2c (own_b255 _)) (vs' := [(.int 100), (.int 105), (.int 115), (.int 116), (.int (p2 &&& (255 : Int32))), (.int 110), (.int 99), (.int 101)]) rfl gz245 (Or.inr gb245) (fun _ _ => trivial) (pc' := 362) (hb hy at_361) rfl ?_
        intro T473 h473 lo473 W473 R473 V473
        refine o_new W473 (w5 hw) (w6 hw) (w7 hw) (fun _ _ => trivial) (pc' := 365) (hb hy at_362) rfl (cells' := 7) (slots' := 49) rfl rfl (by decide) (by decide) ?_
        intro b474 T474 h474 W474 E474 ge474 gz474 gb474 A474 D474
        have Fb474_coder : Fld Z h474 b474 "java/lang/String" "coder" "B" (.int 0) := D474 (Or.inr (w31 hw)) (ty := .byte) (by decide)
        have Fb474_value : Fld Z h474 b474 "java/lang/String" "value" "[B" .null := D474 (Or.inr (w33 hw)) (ty := (.array .byte)) (by decide)
        refine o_dup W474 (pc' := 366) (hb hy at_365) rfl rfl ?_
        refine o_aload W474 (pc' := 368) (hb hy at_366) rfl rfl rfl ?_
        have c475 := (V473.ext E474)
        have ok476 : own_ok [(100 : Int32), (105 : Int32), (115 : Int32), (116 : Int32), (p2 &&& (255 : Int32)), (110 : Int32), (99 : Int32), (101 : Int32)] := ⟨by simp only [List.mem_cons, List.not_mem_nil, or_false, forall_eq_or_imp, forall_eq, false_imp_iff, implies_true]; exact ⟨(by unfold own_b; decide), (by unfold own_b; decide), (by unfold own_b; decide), (by unfold own_b; decide), (own_b255 _), (by unfold own_b; decide), (by unfold own_b; decide), (by unfold own_b; decide)⟩, Nat.le_of_ble_eq_true rfl⟩
        refine o_special W474 (y := (⟨"java/lang/String", "<init>", "([C)V"⟩ : MethodName)) rfl (w8 hw) (w9 hw) (w10 hw) (by decide) (a := b474) (argsL := [(.ref b245)]) (StrChars.Road.backV (W := 1) W474.2.2.2.1 (own_hV hw) (kI := 4) (w6 hw) (cs := [(100 : Int32), (105 : Int32), (115 : Int32), (116 : Int32), (p2 &&& (255 : Int32)), (110 : Int32), (99 : Int32), (101 : Int32)]) (bs := [((100 : Int32)).toInt8.toInt32, ((105 : Int32)).toInt8.toInt32, ((115 : Int32)).toInt8.toInt32, ((116 : Int32)).toInt8.toInt32, ((p2 &&& (255 : Int32))).toInt8.toInt32, ((110 : Int32)).toInt8.toInt32, ((99 : Int32)).toInt8.toInt32, ((101 : Int32)).toInt8.toInt32]) (n := 8) (n0 := Z.heap.size) gz474 W474.zs A474 Fb474_value Fb474_coder c475 (SgCS.ext W474.ox) NgCS rfl rfl (by decide) (by decide) ok476.1 rfl (by decide) (by decide)) (by rw [hml]; rfl) (lenOf pd0 rfl) (S := [(.ref b474)]) rfl (by exact Nat.le_of_eq rfl) (pc' := 371) (hb hy at_368) rfl (cells' := 8) (slots' := 57) rfl rfl (by decide) (by decide) (wy := [b474]) (fun _ _ _ q => ⟨q.2.1, q.2.2.1⟩) (allS ⟨gz474, (Or.inr gb474)⟩ all0) (fun _ _ => trivial) ?_
        intro v477 T477 h477 lo477 W477 K477 q477
        obtain ⟨rfl, -, -, X477, Fc477, t477, kb477, gz477, ge477, -, Fv477, A477⟩ := q477
        have B477 : Arv Z h477 t477 kb477 .byte (8 : Int32) [(.int (StrChars.lo8 (100 : Int32))), (.int (StrChars.lo8 (105 : Int32))), (.int (StrChars.lo8 (115 : Int32))), (.int (StrChars.lo8 (116 : Int32))), (.int (StrChars.lo8 (p2 &&& (255 : Int32)))), (.int (StrChars.lo8 (110 : Int32))), (.int (StrChars.lo8 (99 : Int32))), (.int (StrChars.lo8 (101 : Int32)))] (.int 0) := A477
        show Gl _ _ _ _ _ _ _ _ [(.ref b474)]
        refine o_astore W477 (L' := #[.val (.int p0), .val (.int p1), .val (.int p2), .val (.int p3), .val (.int 2), .val (.int 1), .val (.int (p2 &&& (255 : Int32))), .val (.ref b224), .val (.ref b232), .val (.ref b245), .val (.ref b254), .val (.ref b255), .val (.ref b263), .val (.ref b474), .unset, .val (.ref b245), .val (.ref gO6), .val (.int 4), .val (.int 97)]) (pc' := 373) (hb hy at_371) rfl rfl rfl ?_
        refine o_iload W477 (pc' := 375) (hb hy at_373) rfl rfl ?_
        refine o_ifN W477 (pc' := 378) (hb hy at_375) (XT.i0_eq_f (by decide)) rfl ?_
        refine o_iload W477 (pc' := 380) (hb hy at_378) rfl rfl ?_
        refine o_iload W477 (pc' := 382) (hb hy at_380) rfl rfl ?_
        rcases (Classical.em ((p2 &&& (255 : Int32)) = (97 : Int32))).symm with hq478 | hq478
        · refine o_icmpY W477 (pc' := 392) (hb hy at_382) (XT.ii_ne_t hq478) (by decide) rfl ?_
          refine o_aconstNull W477 (pc' := 393) (hb hy at_392) rfl ?_
          refine o_astore W477 (L' := #[.val (.int p0), .val (.int p1), .val (.int p2), .val (.int p3), .val (.int 2), .val (.int 1), .val (.int (p2 &&& (255 : Int32))), .val (.ref b224), .val (.ref b232), .val (.ref b245), .val (.ref b254), .val (.ref b255), .val (.ref b263), .val (.ref b474), .val .null, .val (.ref b245), .val (.ref gO6), .val (.int 4), .val (.int 97)]) (pc' := 395) (hb hy at_393) rfl rfl rfl ?_
          refine o_goto W477 (pc' := 503) (hb hy at_395) (by decide) rfl ?_
          refine o_aload W477 (pc' := 505) (hb hy at_503) rfl rfl rfl ?_
          refine o_static W477 (y := (⟨"com/example/sessn/sessn/session/Weights", "labelled", "(Ljava/lang/String;)Lcom/example/sessn/sessn/session/Weights;"⟩ : MethodName)) (w34 hw) (w35 hw) (w2 hw) (w36 hw) (by decide) (argsL := [(.ref b474)]) (CtrN.back (Wd := 0) W477 (rm9 l Z a0 hw gCS gO1 gO2 gO4 gO6 gO8 gO9 gO10 gO11 gO12 gO13 k_gO2 k_gO9 k_gO11 k_gO13 b474 t477 kb477 [(100 : Int32), (105 : Int32), (115 : Int32), (116 : Int32), (p2 &&& (255 : Int32)), (110 : Int32), (99 : Int32), (101 : Int32)] h477 W477.old SgO2__VALUES VgO2 XgO2 FitgO2 FgO1_label SgCS NgCS XgO8 FgO8_value FgO8_coder VgO9 X477 Fv477 Fc477 B477 ok476 (own_eqN (by simp)) FgO4_label XgO10 FgO10_value FgO10_coder VgO11 (own_eqN (by simp)) FgO6_label XgO12 FgO12_value FgO12_coder VgO13 (own_eqN (by simp [hq478, Ne.symm hq478]))) (w36 hw) (w2 hw) (by decide) (by decide)) (by rw [hml]; rfl) (lenOf pd3 rfl) (S := []) rfl (by exact Nat.le_of_eq rfl) (pc' := 508) (hb hy at_505) rfl (cells' := 9) (slots' := 60) rfl rfl (by decide) (by decide) (wy := []) (fun _ _ _ q => ⟨q.1, q.2.1⟩) all0 (fun _ _ => trivial) ?_
          intro v479 T479 h479 lo479 W479 K479 q479
          obtain rfl := q479.2.2
          show Gl _ _ _ _ _ _ _ _ [.null]
          refine o_aload W479 (pc' := 510) (hb hy at_508) rfl rfl rfl ?_
          refine o_acmpN W479 (pc' := 513) (hb hy at_510) rfl rfl (XT.aa_ne_f rfl) rfl ?_
          refine o_iconst W479 (v := 1) (pc' := 514) (hb hy at_513) rfl rfl ?_
          refine o_goto W479 (pc' := 518) (hb hy at_514) (by decide) rfl ?_
          exact o_retN W479 hlk (t := .boolean) hret (by simp) (z' := (1 : Int32)) (by decide) (hb hy at_518) (by decide) (by decide) rfl
        · refine o_icmpN W477 (pc' := 385) (hb hy at_382) (XT.ii_ne_f hq478) rfl ?_
          refine o_aload W477 (pc' := 387) (hb hy at_385) rfl rfl rfl ?_
          refine o_astore W477 (L' := #[.val (.int p0), .val (.int p1), .val (.int p2), .val (.int p3), .val (.int 2), .val (.int 1), .val (.int (p2 &&& (255 : Int32))), .val (.ref b224), .val (.ref b232), .val (.ref b245), .val (.ref b254), .val (.ref b255), .val (.ref b263), .val (.ref b474), .val (.ref gO6), .val (.ref b245), .val (.ref gO6), .val (.int 4), .val (.int 97)]) (pc' := 389) (hb hy at_387) rfl rfl rfl ?_
          refine o_goto W477 (pc' := 395) (hb hy at_389) (by decide) rfl ?_
          refine o_goto W477 (pc' := 503) (hb hy at_395) (by decide) rfl ?_
          refine o_aload W477 (pc' := 505) (hb hy at_503) rfl rfl rfl ?_
          refine o_static W477 (y := (⟨"com/example/sessn/sessn/session/Weights", "labelled", "(Ljava/lang/String;)Lcom/example/sessn/sessn/session/Weights;"⟩ : MethodName)) (w34 hw) (w35 hw) (w2 hw) (w36 hw) (by decide) (argsL := [(.ref b474)]) (CtrN.back (Wd := 0) W477 (rm4 l Z a0 hw gCS gO1 gO2 gO4 gO6 gO8 gO9 gO10 gO11 gO12 gO13 k_gO2 k_gO9 k_gO11 k_gO13 b474 t477 kb477 [(100 : Int32), (105 : Int32), (115 : Int32), (116 : Int32), (p2 &&& (255 : Int32)), (110 : Int32), (99 : Int32), (101 : Int32)] h477 W477.old SgO2__VALUES VgO2 XgO2 FitgO2 FgO1_label SgCS NgCS XgO8 FgO8_value FgO8_coder VgO9 X477 Fv477 Fc477 B477 ok476 (own_eqN (by simp)) FgO4_label XgO10 FgO10_value FgO10_coder VgO11 (own_eqN (by simp)) FgO6_label XgO12 FgO12_value FgO12_coder VgO13 (own_eqY (by simp [hq478]))) (w36 hw) (w2 hw) (by decide) (by decide)) (by rw [hml]; rfl) (lenOf pd3 rfl) (S := []) rfl (by exact Nat.le_of_eq rfl) (pc' := 508) (hb hy at_505) rfl (cells' := 9) (slots' := 60) rfl rfl (by decide) (by decide) (wy := []) (fun _ _ _ q => ⟨q.1, q.2.1⟩) all0 (fun _ _ => trivial) ?_
          intro v480 T480 h480 lo480 W480 K480 q480
          obtain rfl := q480.2.2
          show Gl _ _ _ _ _ _ _ _ [(.ref gO6)]
          refine o_aload W480 (pc' := 510) (hb hy at_508) rfl rfl rfl ?_
          refine o_acmpN W480 (pc' := 513) (hb hy at_510) rfl rfl (XT.aa_ne_f rfl) rfl ?_
          refine o_iconst W480 (v := 1) (pc' := 514) (hb hy at_513) rfl rfl ?_
          refine o_goto W480 (pc' := 518) (hb hy at_514) (by decide) rfl ?_
          exact o_retN W480 hlk (t := .boolean) hret (by simp) (z' := (1 : Int32)) (by decide) (hb hy at_518) (by decide) (by decide) rfl
      · refine o_irem W436 (v := 5) (pc' := 341) (hb hy at_340) (by decide) ek440 rfl ?_
        refine o_istore W436 (L' := #[.val (.int p0), .val (.int p1), .val (.int p2), .val (.int p3), .val (.int 2), .val (.int 1), .val (.int (p2 &&& (255 : Int32))), .val (.ref b224), .val (.ref b232), .val (.ref b245), .val (.ref b254), .val (.ref b255), .val (.ref b263), .unset, .unset, .val (.ref b245), .val (.ref gO6), .val (.int 5), .unset]) (pc' := 343) (hb hy at_341) rfl rfl ?_
        refine o_aload W436 (pc' := 345) (hb hy at_343) rfl rfl rfl ?_
        refine o_iload W436 (pc' := 347) (hb hy at_345) rfl rfl ?_
        refine o_caload W436 c439 (x := (110 : Int32)) (i := 5) (by decide) (by decide) (by decide) rfl (pc' := 348) (hb hy at_347) rfl ?_
        refine o_istore W436 (L' := #[.val (.int p0), .val (.int p1), .val (.int p2), .val (.int p3), .val (.int 2), .val (.int 1), .val (.int (p2 &&& (255 : Int32))), .val (.ref b224), .val (.ref b232), .val (.ref b245), .val (.ref b254), .val (.ref b255), .val (.ref b263), .unset, .unset, .val (.ref b245), .val (.ref gO6), .val (.int 5), .val (.int 110)]) (pc' := 350) (hb hy at_348) rfl rfl ?_
        refine o_iload W436 (pc' := 352) (hb hy at_350) rfl rfl ?_
        refine o_ifN W436 (pc' := 355) (hb hy at_352) (XT.i0_eq_f (by decide)) rfl ?_
        refine o_aload W436 (pc' := 357) (hb hy at_355) rfl rfl rfl ?_
        refine o_iload W436 (pc' := 359) (hb hy at_357) rfl rfl ?_
        refine o_iload W436 (pc' := 361) (hb hy at_359) rfl rfl ?_
        refine o_stC W436 c439 (i := 5) (x' := (p2 &&& (255 : Int32))) (by decide) (by decide) (by decide) (Nat.lt_of_sub_eq_succ rfl) (own_i2c (own_b255 _)) (vs' := [(.int 100), (.int 105), (.int 115), (.int 116), (.int 97), (.int (p2 &&& (255 : Int32))), (.int 99), (.int 101)]) rfl gz245 (Or.inr gb245) (fun _ _ => trivial) (pc' := 362) (hb hy at_361) rfl ?_
        intro T481 h481 lo481 W481 R481 V481
        refine o_new W481 (w5 hw) (w6 hw) (w7 hw) (fun _ _ => trivial) (pc' := 365) (hb hy at_362) rfl (cells' := 7) (slots' := 49) rfl rfl (by decide) (by decide) ?_
        intro b482 T482 h482 W482 E482 ge482 gz482 gb482 A482 D482
        have Fb482_coder : Fld Z h482 b482 "java/lang/String" "coder" "B" (.int 0) := D482 (Or.inr (w31 hw)) (ty := .byte) (by decide)
        have Fb482_value : Fld Z h482 b482 "java/lang/String" "value" "[B" .null := D482 (Or.inr (w33 hw)) (ty := (.array .byte)) (by decide)
        refine o_dup W482 (pc' := 366) (hb hy at_365) rfl rfl ?_
        refine o_aload W482 (pc' := 368) (hb hy at_366) rfl rfl rfl ?_
        have c483 := (V481.ext E482)
        have ok484 : own_ok [(100 : Int32), (105 : Int32), (115 : Int32), (116 : Int32), (97 : Int32), (p2 &&& (255 : Int32)), (99 : Int32), (101 : Int32)] := ⟨by simp only [List.mem_cons, List.not_mem_nil, or_false, forall_eq_or_imp, forall_eq, false_imp_iff, implies_true]; exact ⟨(by unfold own_b; decide), (by unfold own_b; decide), (by unfold own_b; decide), (by unfold own_b; decide), (by unfold own_b; decide), (own_b255 _), (by unfold own_b; decide), (by unfold own_b; decide)⟩, Nat.le_of_ble_eq_true rfl⟩
        refine o_special W482 (y := (⟨"java/lang/String", "<init>", "([C)V"⟩ : MethodName)) rfl (w8 hw) (w9 hw) (w10 hw) (by decide) (a := b482) (argsL := [(.ref b245)]) (StrChars.Road.backV (W := 1) W482.2.2.2.1 (own_hV hw) (kI := 4) (w6 hw) (cs := [(100 : Int32), (105 : Int32), (115 : Int32), (116 : Int32), (97 : Int32), (p2 &&& (255 : Int32)), (99 : Int32), (101 : Int32)]) (bs := [((100 : Int32)).toInt8.toInt32, ((105 : Int32)).toInt8.toInt32, ((115 : Int32)).toInt8.toInt32, ((116 : Int32)).toInt8.toInt32, ((97 : Int32)).toInt8.toInt32, ((p2 &&& (255 : Int32))).toInt8.toInt32, ((99 : Int32)).toInt8.toInt32, ((101 : Int32)).toInt8.toInt32]) (n := 8) (n0 := Z.heap.size) gz482 W482.zs A482 Fb482_value Fb482_coder c483 (SgCS.ext W482.ox) NgCS rfl rfl (by decide) (by decide) ok484.1 rfl (by decide) (by decide)) (by rw [hml]; rfl) (lenOf pd0 rfl) (S := [(.ref b482)]) rfl (by exact Nat.le_of_eq rfl) (pc' := 371) (hb hy at_368) rfl (cells' := 8) (slots' := 57) rfl rfl (by decide) (by decide) (wy := [b482]) (fun _ _ _ q => ⟨q.2.1, q.2.2.1⟩) (allS ⟨gz482, (Or.inr gb482)⟩ all0) (fun _ _ => trivial) ?_
        intro v485 T485 h485 lo485 W485 K485 q485
        obtain ⟨rfl, -, -, X485, Fc485, t485, kb485, gz485, ge485, -, Fv485, A485⟩ := q485
        have B485 : Arv Z h485 t485 kb485 .byte (8 : Int32) [(.int (StrChars.lo8 (100 : Int32))), (.int (StrChars.lo8 (105 : Int32))), (.int (StrChars.lo8 (115 : Int32))), (.int (StrChars.lo8 (116 : Int32))), (.int (StrChars.lo8 (97 : Int32))), (.int (StrChars.lo8 (p2 &&& (255 : Int32)))), (.int (StrChars.lo8 (99 : Int32))), (.int (StrChars.lo8 (101 : Int32)))] (.int 0) := A485
        show Gl _ _ _ _ _ _ _ _ [(.ref b482)]
        refine o_astore W485 (L' := #[.val (.int p0), .val (.int p1), .val (.int p2), .val (.int p3), .val (.int 2), .val (.int 1), .val (.int (p2 &&& (255 : Int32))), .val (.ref b224), .val (.ref b232), .val (.ref b245), .val (.ref b254), .val (.ref b255), .val (.ref b263), .val (.ref b482), .unset, .val (.ref b245), .val (.ref gO6), .val (.int 5), .val (.int 110)]) (pc' := 373) (hb hy at_371) rfl rfl rfl ?_
        refine o_iload W485 (pc' := 375) (hb hy at_373) rfl rfl ?_
        refine o_ifN W485 (pc' := 378) (hb hy at_375) (XT.i0_eq_f (by decide)) rfl ?_
        refine o_iload W485 (pc' := 380) (hb hy at_378) rfl rfl ?_
        refine o_iload W485 (pc' := 382) (hb hy at_380) rfl rfl ?_
        rcases (Classical.em ((p2 &&& (255 : Int32)) = (110 : Int32))).symm with hq486 | hq486
        · refine o_icmpY W485 (pc' := 392) (hb hy at_382) (XT.ii_ne_t hq486) (by decide) rfl ?_
          refine o_aconstNull W485 (pc' := 393) (hb hy at_392) rfl ?_
          refine o_astore W485 (L' := #[.val (.int p0), .val (.int p1), .val (.int p2), .val (.int p3), .val (.int 2), .val (.int 1), .val (.int (p2 &&& (255 : Int32))), .val (.ref b224), .val (.ref b232), .val (.ref b245), .val (.ref b254), .val (.ref b255), .val (.ref b263), .val (.ref b482), .val .null, .val (.ref b245), .val (.ref gO6), .val (.int 5), .val (.int 110)]) (pc' := 395) (hb hy at_393) rfl rfl rfl ?_
          refine o_goto W485 (pc' := 503) (hb hy at_395) (by decide) rfl ?_
          refine o_aload W485 (pc' := 505) (hb hy at_503) rfl rfl rfl ?_
          refine o_static W485 (y := (⟨"com/example/sessn/sessn/session/Weights", "labelled", "(Ljava/lang/String;)Lcom/example/sessn/sessn/session/Weights;"⟩ : MethodName)) (w34 hw) (w35 hw) (w2 hw) (w36 hw) (by decide) (argsL := [(.ref b482)]) (CtrN.back (Wd := 0) W485 (rm9 l Z a0 hw gCS gO1 gO2 gO4 gO6 gO8 gO9 gO10 gO11 gO12 gO13 k_gO2 k_gO9 k_gO11 k_gO13 b482 t485 kb485 [(100 : Int32), (105 : Int32), (115 : Int32), (116 : Int32), (97 : Int32), (p2 &&& (255 : Int32)), (99 : Int32), (101 : Int32)] h485 W485.old SgO2__VALUES VgO2 XgO2 FitgO2 FgO1_label SgCS NgCS XgO8 FgO8_value FgO8_coder VgO9 X485 Fv485 Fc485 B485 ok484 (own_eqN (by simp)) FgO4_label XgO10 FgO10_value FgO10_coder VgO11 (own_eqN (by simp)) FgO6_label XgO12 FgO12_value FgO12_coder VgO13 (own_eqN (by simp [hq486, Ne.symm hq486]))) (w36 hw) (w2 hw) (by decide) (by decide)) (by rw [hml]; rfl) (lenOf pd3 rfl) (S := []) rfl (by exact Nat.le_of_eq rfl) (pc' := 508) (hb hy at_505) rfl (cells' := 9) (slots' := 60) rfl rfl (by decide) (by decide) (wy := []) (fun _ _ _ q => ⟨q.1, q.2.1⟩) all0 (fun _ _ => trivial) ?_
          intro v487 T487 h487 lo487 W487 K487 q487
          obtain rfl := q487.2.2
          show Gl _ _ _ _ _ _ _ _ [.null]
          refine o_aload W487 (pc' := 510) (hb hy at_508) rfl rfl rfl ?_
          refine o_acmpN W487 (pc' := 513) (hb hy at_510) rfl rfl (XT.aa_ne_f rfl) rfl ?_
          refine o_iconst W487 (v := 1) (pc' := 514) (hb hy at_513) rfl rfl ?_
          refine o_goto W487 (pc' := 518) (hb hy at_514) (by decide) rfl ?_
          exact o_retN W487 hlk (t := .boolean) hret (by simp) (z' := (1 : Int32)) (by decide) (hb hy at_518) (by decide) (by decide) rfl
        · refine o_icmpN W485 (pc' := 385) (hb hy at_382) (XT.ii_ne_f hq486) rfl ?_
          refine o_aload W485 (pc' := 387) (hb hy at_385) rfl rfl rfl ?_
          refine o_astore W485 (L' := #[.val (.int p0), .val (.int p1), .val (.int p2), .val (.int p3), .val (.int 2), .val (.int 1), .val (.int (p2 &&& (255 : Int32))), .val (.ref b224), .val (.ref b232), .val (.ref b245), .val (.ref b254), .val (.ref b255), .val (.ref b263), .val (.ref b482), .val (.ref gO6), .val (.ref b245), .val (.ref gO6), .val (.int 5), .val (.int 110)]) (pc' := 389) (hb hy at_387) rfl rfl rfl ?_
          refine o_goto W485 (pc' := 395) (hb hy at_389) (by decide) rfl ?_
          refine o_goto W485 (pc' := 503) (hb hy at_395) (by decide) rfl ?_
          refine o_aload W485 (pc' := 505) (hb hy at_503) rfl rfl rfl ?_
          refine o_static W485 (y := (⟨"com/example/sessn/sessn/session/Weights", "labelled", "(Ljava/lang/String;)Lcom/example/sessn/sessn/session/Weights;"⟩ : MethodName)) (w34 hw) (w35 hw) (w2 hw) (w36 hw) (by decide) (argsL := [(.ref b482)]) (CtrN.back (Wd := 0) W485 (rm4 l Z a0 hw gCS gO1 gO2 gO4 gO6 gO8 gO9 gO10 gO11 gO12 gO13 k_gO2 k_gO9 k_gO11 k_gO13 b482 t485 kb485 [(100 : Int32), (105 : Int32), (115 : Int32), (116 : Int32), (97 : Int32), (p2 &&& (255 : Int32)), (99 : Int32), (101 : Int32)] h485 W485.old SgO2__VALUES VgO2 XgO2 FitgO2 FgO1_label SgCS NgCS XgO8 FgO8_value FgO8_coder VgO9 X485 Fv485 Fc485 B485 ok484 (own_eqN (by simp)) FgO4_label XgO10 FgO10_value FgO10_coder VgO11 (own_eqN (by simp)) FgO6_label XgO12 FgO12_value FgO12_coder VgO13 (own_eqY (by simp [hq486]))) (w36 hw) (w2 hw) (by decide) (by decide)) (by rw [hml]; rfl) (lenOf pd3 rfl) (S := []) rfl (by exact Nat.le_of_eq rfl) (pc' := 508) (hb hy at_505) rfl (cells' := 9) (slots' := 60) rfl rfl (by decide) (by decide) (wy := []) (fun _ _ _ q => ⟨q.1, q.2.1⟩) all0 (fun _ _ => trivial) ?_
          intro v488 T488 h488 lo488 W488 K488 q488
          obtain rfl := q488.2.2
          show Gl _ _ _ _ _ _ _ _ [(.ref gO6)]
          refine o_aload W488 (pc' := 510) (hb hy at_508) rfl rfl rfl ?_
          refine o_acmpN W488 (pc' := 513) (hb hy at_510) rfl rfl (XT.aa_ne_f rfl) rfl ?_
          refine o_iconst W488 (v := 1) (pc' := 514) (hb hy at_513) rfl rfl ?_
          refine o_goto W488 (pc' := 518) (hb hy at_514) (by decide) rfl ?_
          exact o_retN W488 hlk (t := .boolean) hret (by simp) (z' := (1 : Int32)) (by decide) (hb hy at_518) (by decide) (by decide) rfl
      · refine o_irem W436 (v := 6) (pc' := 341) (hb hy at_340) (by decide) ek440 rfl ?_
        refine o_istore W436 (L' := #[.val (.int p0), .val (.int p1), .val (.int p2), .val (.int p3), .val (.int 2), .val (.int 1), .val (.int (p2 &&& (255 : Int32))), .val (.ref b224), .val (.ref b232), .val (.ref b245), .val (.ref b254), .val (.ref b255), .val (.ref b263), .unset, .unset, .val (.ref b245), .val (.ref gO6), .val (.int 6), .unset]) (pc' := 343) (hb hy at_341) rfl rfl ?_
        refine o_aload W436 (pc' := 345) (hb hy at_343) rfl rfl rfl ?_
        refine o_iload W436 (pc' := 347) (hb hy at_345) rfl rfl ?_
        refine o_caload W436 c439 (x := (99 : Int32)) (i := 6) (by decide) (by decide) (by decide) rfl (pc' := 348) (hb hy at_347) rfl ?_
        refine o_istore W436 (L' := #[.val (.int p0), .val (.int p1), .val (.int p2), .val (.int p3), .val (.int 2), .val (.int 1), .val (.int (p2 &&& (255 : Int32))), .val (.ref b224), .val (.ref b232), .val (.ref b245), .val (.ref b254), .val (.ref b255), .val (.ref b263), .unset, .unset, .val (.ref b245), .val (.ref gO6), .val (.int 6), .val (.int 99)]) (pc' := 350) (hb hy at_348) rfl rfl ?_
        refine o_iload W436 (pc' := 352) (hb hy at_350) rfl rfl ?_
        refine o_ifN W436 (pc' := 355) (hb hy at_352) (XT.i0_eq_f (by decide)) rfl ?_
        refine o_aload W436 (pc' := 357) (hb hy at_355) rfl rfl rfl ?_
        refine o_iload W436 (pc' := 359) (hb hy at_357) rfl rfl ?_
        refine o_iload W436 (pc' := 361) (hb hy at_359) rfl rfl ?_
        refine o_stC W436 c439 (i := 6) (x' := (p2 &&& (255 : Int32))) (by decide) (by decide) (by decide) (Nat.lt_of_sub_eq_succ rfl) (own_i2c (own_b255 _)) (vs' := [(.int 100), (.int 105), (.int 115), (.int 116), (.int 97), (.int 110), (.int (p2 &&& (255 : Int32))), (.int 101)]) rfl gz245 (Or.inr gb245) (fun _ _ => trivial) (pc' := 362) (hb hy at_361) rfl ?_
        intro T489 h489 lo489 W489 R489 V489
        refine o_new W489 (w5 hw) (w6 hw) (w7 hw) (fun _ _ => trivial) (pc' := 365) (hb hy at_362) rfl (cells' := 7) (slots' := 49) rfl rfl (by decide) (by decide) ?_
        intro b490 T490 h490 W490 E490 ge490 gz490 gb490 A490 D490
        have Fb490_coder : Fld Z h490 b490 "java/lang/String" "coder" "B" (.int 0) := D490 (Or.inr (w31 hw)) (ty := .byte) (by decide)
        have Fb490_value : Fld Z h490 b490 "java/lang/String" "value" "[B" .null := D490 (Or.inr (w33 hw)) (ty := (.array .byte)) (by decide)
        refine o_dup W490 (pc' := 366) (hb hy at_365) rfl rfl ?_
        refine o_aload W490 (pc' := 368) (hb hy at_366) rfl rfl rfl ?_
        have c491 := (V489.ext E490)
        have ok492 : own_ok [(100 : Int32), (105 : Int32), (115 : Int32), (116 : Int32), (97 : Int32), (110 : Int32), (p2 &&& (255 : Int32)), (101 : Int32)] := ⟨by simp only [List.mem_cons, List.not_mem_nil, or_false, forall_eq_or_imp, forall_eq, false_imp_iff, implies_true]; exact ⟨(by unfold own_b; decide), (by unfold own_b; decide), (by unfold own_b; decide), (by unfold own_b; decide), (by unfold own_b; decide), (by unfold own_b; decide), (own_b255 _), (by unfold own_b; decide)⟩, Nat.le_of_ble_eq_true rfl⟩
        refine o_special W490 (y := (⟨"java/lang/String", "<init>", "([C)V"⟩ : MethodName)) rfl (w8 hw) (w9 hw) (w10 hw) (by decide) (a := b490) (argsL := [(.ref b245)]) (StrChars.Road.backV (W := 1) W490.2.2.2.1 (own_hV hw) (kI := 4) (w6 hw) (cs := [(100 : Int32), (105 : Int32), (115 : Int32), (116 : Int32), (97 : Int32), (110 : Int32), (p2 &&& (255 : Int32)), (101 : Int32)]) (bs := [((100 : Int32)).toInt8.toInt32, ((105 : Int32)).toInt8.toInt32, ((115 : Int32)).toInt8.toInt32, ((116 : Int32)).toInt8.toInt32, ((97 : Int32)).toInt8.toInt32, ((110 : Int32)).toInt8.toInt32, ((p2 &&& (255 : Int32))).toInt8.toInt32, ((101 : Int32)).toInt8.toInt32]) (n := 8) (n0 := Z.heap.size) gz490 W490.zs A490 Fb490_value Fb490_coder c491 (SgCS.ext W490.ox) NgCS rfl rfl (by decide) (by decide) ok492.1 rfl (by decide) (by decide)) (by rw [hml]; rfl) (lenOf pd0 rfl) (S := [(.ref b490)]) rfl (by exact Nat.le_of_eq rfl) (pc' := 371) (hb hy at_368) rfl (cells' := 8) (slots' := 57) rfl rfl (by decide) (by decide) (wy := [b490]) (fun _ _ _ q => ⟨q.2.1, q.2.2.1⟩) (allS ⟨gz490, (Or.inr gb490)⟩ all0) (fun _ _ => trivial) ?_
        intro v493 T493 h493 lo493 W493 K493 q493
        obtain ⟨rfl, -, -, X493, Fc493, t493, kb493, gz493, ge493, -, Fv493, A493⟩ := q493
        have B493 : Arv Z h493 t493 kb493 .byte (8 : Int32) [(.int (StrChars.lo8 (100 : Int32))), (.int (StrChars.lo8 (105 : Int32))), (.int (StrChars.lo8 (115 : Int32))), (.int (StrChars.lo8 (116 : Int32))), (.int (StrChars.lo8 (97 : Int32))), (.int (StrChars.lo8 (110 : Int32))), (.int (StrChars.lo8 (p2 &&& (255 : Int32)))), (.int (StrChars.lo8 (101 : Int32)))] (.int 0) := A493
        show Gl _ _ _ _ _ _ _ _ [(.ref b490)]
        refine o_astore W493 (L' := #[.val (.int p0), .val (.int p1), .val (.int p2), .val (.int p3), .val (.int 2), .val (.int 1), .val (.int (p2 &&& (255 : Int32))), .val (.ref b224), .val (.ref b232), .val (.ref b245), .val (.ref b254), .val (.ref b255), .val (.ref b263), .val (.ref b490), .unset, .val (.ref b245), .val (.ref gO6), .val (.int 6), .val (.int 99)]) (pc' := 373) (hb hy at_371) rfl rfl rfl ?_
        refine o_iload W493 (pc' := 375) (hb hy at_373) rfl rfl ?_
        refine o_ifN W493 (pc' := 378) (hb hy at_375) (XT.i0_eq_f (by decide)) rfl ?_
        refine o_iload W493 (pc' := 380) (hb hy at_378) rfl rfl ?_
        refine o_iload W493 (pc' := 382) (hb hy at_380) rfl rfl ?_
        rcases (Classical.em ((p2 &&& (255 : Int32)) = (99 : Int32))).symm with hq494 | hq494
        · refine o_icmpY W493 (pc' := 392) (hb hy at_382) (XT.ii_ne_t hq494) (by decide) rfl ?_
          refine o_aconstNull W493 (pc' := 393) (hb hy at_392) rfl ?_
          refine o_astore W493 (L' := #[.val (.int p0), .val (.int p1), .val (.int p2), .val (.int p3), .val (.int 2), .val (.int 1), .val (.int (p2 &&& (255 : Int32))), .val (.ref b224), .val (.ref b232), .val (.ref b245), .val (.ref b254), .val (.ref b255), .val (.ref b263), .val (.ref b490), .val .null, .val (.ref b245), .val (.ref gO6), .val (.int 6), .val (.int 99)]) (pc' := 395) (hb hy at_393) rfl rfl rfl ?_
          refine o_goto W493 (pc' := 503) (hb hy at_395) (by decide) rfl ?_
          refine o_aload W493 (pc' := 505) (hb hy at_503) rfl rfl rfl ?_
          refine o_static W493 (y := (⟨"com/example/sessn/sessn/session/Weights", "labelled", "(Ljava/lang/String;)Lcom/example/sessn/sessn/session/Weights;"⟩ : MethodName)) (w34 hw) (w35 hw) (w2 hw) (w36 hw) (by decide) (argsL := [(.ref b490)]) (CtrN.back (Wd := 0) W493 (rm9 l Z a0 hw gCS gO1 gO2 gO4 gO6 gO8 gO9 gO10 gO11 gO12 gO13 k_gO2 k_gO9 k_gO11 k_gO13 b490 t493 kb493 [(100 : Int32), (105 : Int32), (115 : Int32), (116 : Int32), (97 : Int32), (110 : Int32), (p2 &&& (255 : Int32)), (101 : Int32)] h493 W493.old SgO2__VALUES VgO2 XgO2 FitgO2 FgO1_label SgCS NgCS XgO8 FgO8_value FgO8_coder VgO9 X493 Fv493 Fc493 B493 ok492 (own_eqN (by simp)) FgO4_label XgO10 FgO10_value FgO10_coder VgO11 (own_eqN (by simp)) FgO6_label XgO12 FgO12_value FgO12_coder VgO13 (own_eqN (by simp [hq494, Ne.symm hq494]))) (w36 hw) (w2 hw) (by decide) (by decide)) (by rw [hml]; rfl) (lenOf pd3 rfl) (S := []) rfl (by exact Nat.le_of_eq rfl) (pc' := 508) (hb hy at_505) rfl (cells' := 9) (slots' := 60) rfl rfl (by decide) (by decide) (wy := []) (fun _ _ _ q => ⟨q.1, q.2.1⟩) all0 (fun _ _ => trivial) ?_
          intro v495 T495 h495 lo495 W495 K495 q495
          obtain rfl := q495.2.2
          show Gl _ _ _ _ _ _ _ _ [.null]
          refine o_aload W495 (pc' := 510) (hb hy at_508) rfl rfl rfl ?_
          refine o_acmpN W495 (pc' := 513) (hb hy at_510) rfl rfl (XT.aa_ne_f rfl) rfl ?_
          refine o_iconst W495 (v := 1) (pc' := 514) (hb hy at_513) rfl rfl ?_
          refine o_goto W495 (pc' := 518) (hb hy at_514) (by decide) rfl ?_
          exact o_retN W495 hlk (t := .boolean) hret (by simp) (z' := (1 : Int32)) (by decide) (hb hy at_518) (by decide) (by decide) rfl
        · refine o_icmpN W493 (pc' := 385) (hb hy at_382) (XT.ii_ne_f hq494) rfl ?_
          refine o_aload W493 (pc' := 387) (hb hy at_385) rfl rfl rfl ?_
          refine o_astore W493 (L' := #[.val (.int p0), .val (.int p1), .val (.int p2), .val (.int p3), .val (.int 2), .val (.int 1), .val (.int (p2 &&& (255 : Int32))), .val (.ref b224), .val (.ref b232), .val (.ref b245), .val (.ref b254), .val (.ref b255), .val (.ref b263), .val (.ref b490), .val (.ref gO6), .val (.ref b245), .val (.ref gO6), .val (.int 6), .val (.int 99)]) (pc' := 389) (hb hy at_387) rfl rfl rfl ?_
          refine o_goto W493 (pc' := 395) (hb hy at_389) (by decide) rfl ?_
          refine o_goto W493 (pc' := 503) (hb hy at_395) (by decide) rfl ?_
          refine o_aload W493 (pc' := 505) (hb hy at_503) rfl rfl rfl ?_
          refine o_static W493 (y := (⟨"com/example/sessn/sessn/session/Weights", "labelled", "(Ljava/lang/String;)Lcom/example/sessn/sessn/session/Weights;"⟩ : MethodName)) (w34 hw) (w35 hw) (w2 hw) (w36 hw) (by decide) (argsL := [(.ref b490)]) (CtrN.back (Wd := 0) W493 (rm4 l Z a0 hw gCS gO1 gO2 gO4 gO6 gO8 gO9 gO10 gO11 gO12 gO13 k_gO2 k_gO9 k_gO11 k_gO13 b490 t493 kb493 [(100 : Int32), (105 : Int32), (115 : Int32), (116 : Int32), (97 : Int32), (110 : Int32), (p2 &&& (255 : Int32)), (101 : Int32)] h493 W493.old SgO2__VALUES VgO2 XgO2 FitgO2 FgO1_label SgCS NgCS XgO8 FgO8_value FgO8_coder VgO9 X493 Fv493 Fc493 B493 ok492 (own_eqN (by simp)) FgO4_label XgO10 FgO10_value FgO10_coder VgO11 (own_eqN (by simp)) FgO6_label XgO12 FgO12_value FgO12_coder VgO13 (own_eqY (by simp [hq494]))) (w36 hw) (w2 hw) (by decide) (by decide)) (by rw [hml]; rfl) (lenOf pd3 rfl) (S := []) rfl (by exact Nat.le_of_eq rfl) (pc' := 508) (hb hy at_505) rfl (cells' := 9) (slots' := 60) rfl rfl (by decide) (by decide) (wy := []) (fun _ _ _ q => ⟨q.1, q.2.1⟩) all0 (fun _ _ => trivial) ?_
          intro v496 T496 h496 lo496 W496 K496 q496
          obtain rfl := q496.2.2
          show Gl _ _ _ _ _ _ _ _ [(.ref gO6)]
          refine o_aload W496 (pc' := 510) (hb hy at_508) rfl rfl rfl ?_
          refine o_acmpN W496 (pc' := 513) (hb hy at_510) rfl rfl (XT.aa_ne_f rfl) rfl ?_
          refine o_iconst W496 (v := 1) (pc' := 514) (hb hy at_513) rfl rfl ?_
          refine o_goto W496 (pc' := 518) (hb hy at_514) (by decide) rfl ?_
          exact o_retN W496 hlk (t := .boolean) hret (by simp) (z' := (1 : Int32)) (by decide) (hb hy at_518) (by decide) (by decide) rfl
      · refine o_irem W436 (v := 7) (pc' := 341) (hb hy at_340) (by decide) ek440 rfl ?_
        refine o_istore W436 (L' := #[.val (.int p0), .val (.int p1), .val (.int p2), .val (.int p3), .val (.int 2), .val (.int 1), .val (.int (p2 &&& (255 : Int32))), .val (.ref b224), .val (.ref b232), .val (.ref b245), .val (.ref b254), .val (.ref b255), .val (.ref b263), .unset, .unset, .val (.ref b245), .val (.ref gO6), .val (.int 7), .unset]) (pc' := 343) (hb hy at_341) rfl rfl ?_
        refine o_aload W436 (pc' := 345) (hb hy at_343) rfl rfl rfl ?_
        refine o_iload W436 (pc' := 347) (hb hy at_345) rfl rfl ?_
        refine o_caload W436 c439 (x := (101 : Int32)) (i := 7) (by decide) (by decide) (by decide) rfl (pc' := 348) (hb hy at_347) rfl ?_
        refine o_istore W436 (L' := #[.val (.int p0), .val (.int p1), .val (.int p2), .val (.int p3), .val (.int 2), .val (.int 1), .val (.int (p2 &&& (255 : Int32))), .val (.ref b224), .val (.ref b232), .val (.ref b245), .val (.ref b254), .val (.ref b255), .val (.ref b263), .unset, .unset, .val (.ref b245), .val (.ref gO6), .val (.int 7), .val (.int 101)]) (pc' := 350) (hb hy at_348) rfl rfl ?_
        refine o_iload W436 (pc' := 352) (hb hy at_350) rfl rfl ?_
        refine o_ifN W436 (pc' := 355) (hb hy at_352) (XT.i0_eq_f (by decide)) rfl ?_
        refine o_aload W436 (pc' := 357) (hb hy at_355) rfl rfl rfl ?_
        refine o_iload W436 (pc' := 359) (hb hy at_357) rfl rfl ?_
        refine o_iload W436 (pc' := 361) (hb hy at_359) rfl rfl ?_
        refine o_stC W436 c439 (i := 7) (x' := (p2 &&& (255 : Int32))) (by decide) (by decide) (by decide) (Nat.lt_of_sub_eq_succ rfl) (own_i2c (own_b255 _)) (vs' := [(.int 100), (.int 105), (.int 115), (.int 116), (.int 97), (.int 110), (.int 99), (.int (p2 &&& (255 : Int32)))]) rfl gz245 (Or.inr gb245) (fun _ _ => trivial) (pc' := 362) (hb hy at_361) rfl ?_
        intro T497 h497 lo497 W497 R497 V497
        refine o_new W497 (w5 hw) (w6 hw) (w7 hw) (fun _ _ => trivial) (pc' := 365) (hb hy at_362) rfl (cells' := 7) (slots' := 49) rfl rfl (by decide) (by decide) ?_
        intro b498 T498 h498 W498 E498 ge498 gz498 gb498 A498 D498
        have Fb498_coder : Fld Z h498 b498 "java/lang/String" "coder" "B" (.int 0) := D498 (Or.inr (w31 hw)) (ty := .byte) (by decide)
        have Fb498_value : Fld Z h498 b498 "java/lang/String" "value" "[B" .null := D498 (Or.inr (w33 hw)) (ty := (.array .byte)) (by decide)
        refine o_dup W498 (pc' := 366) (hb hy at_365) rfl rfl ?_
        refine o_aload W498 (pc' := 368) (hb hy at_366) rfl rfl rfl ?_
        have c499 := (V497.ext E498)
        have ok500 : own_ok [(100 : Int32), (105 : Int32), (115 : Int32), (116 : Int32), (97 : Int32), (110 : Int32), (99 : Int32), (p2 &&& (255 : Int32))] := ⟨by simp only [List.mem_cons, List.not_mem_nil, or_false, forall_eq_or_imp, forall_eq, false_imp_iff, implies_true]; exact ⟨(by unfold own_b; decide), (by unfold own_b; decide), (by unfold own_b; decide), (by unfold own_b; decide), (by unfold own_b; decide), (by unfold own_b; decide), (by unfold own_b; decide), (own_b255 _)⟩, Nat.le_of_ble_eq_true rfl⟩
        refine o_special W498 (y := (⟨"java/lang/String", "<init>", "([C)V"⟩ : MethodName)) rfl (w8 hw) (w9 hw) (w10 hw) (by decide) (a := b498) (argsL := [(.ref b245)]) (StrChars.Road.backV (W := 1) W498.2.2.2.1 (own_hV hw) (kI := 4) (w6 hw) (cs := [(100 : Int32), (105 : Int32), (115 : Int32), (116 : Int32), (97 : Int32), (110 : Int32), (99 : Int32), (p2 &&& (255 : Int32))]) (bs := [((100 : Int32)).toInt8.toInt32, ((105 : Int32)).toInt8.toInt32, ((115 : Int32)).toInt8.toInt32, ((116 : Int32)).toInt8.toInt32, ((97 : Int32)).toInt8.toInt32, ((110 : Int32)).toInt8.toInt32, ((99 : Int32)).toInt8.toInt32, ((p2 &&& (255 : Int32))).toInt8.toInt32]) (n := 8) (n0 := Z.heap.size) gz498 W498.zs A498 Fb498_value Fb498_coder c499 (SgCS.ext W498.ox) NgCS rfl rfl (by decide) (by decide) ok500.1 rfl (by decide) (by decide)) (by rw [hml]; rfl) (lenOf pd0 rfl) (S := [(.ref b498)]) rfl (by exact Nat.le_of_eq rfl) (pc' := 371) (hb hy at_368) rfl (cells' := 8) (slots' := 57) rfl rfl (by decide) (by decide) (wy := [b498]) (fun _ _ _ q => ⟨q.2.1, q.2.2.1⟩) (allS ⟨gz498, (Or.inr gb498)⟩ all0) (fun _ _ => trivial) ?_
        intro v501 T501 h501 lo501 W501 K501 q501
        obtain ⟨rfl, -, -, X501, Fc501, t501, kb501, gz501, ge501, -, Fv501, A501⟩ := q501
        have B501 : Arv Z h501 t501 kb501 .byte (8 : Int32) [(.int (StrChars.lo8 (100 : Int32))), (.int (StrChars.lo8 (105 : Int32))), (.int (StrChars.lo8 (115 : Int32))), (.int (StrChars.lo8 (116 : Int32))), (.int (StrChars.lo8 (97 : Int32))), (.int (StrChars.lo8 (110 : Int32))), (.int (StrChars.lo8 (99 : Int32))), (.int (StrChars.lo8 (p2 &&& (255 : Int32))))] (.int 0) := A501
        show Gl _ _ _ _ _ _ _ _ [(.ref b498)]
        refine o_astore W501 (L' := #[.val (.int p0), .val (.int p1), .val (.int p2), .val (.int p3), .val (.int 2), .val (.int 1), .val (.int (p2 &&& (255 : Int32))), .val (.ref b224), .val (.ref b232), .val (.ref b245), .val (.ref b254), .val (.ref b255), .val (.ref b263), .val (.ref b498), .unset, .val (.ref b245), .val (.ref gO6), .val (.int 7), .val (.int 101)]) (pc' := 373) (hb hy at_371) rfl rfl rfl ?_
        refine o_iload W501 (pc' := 375) (hb hy at_373) rfl rfl ?_
        refine o_ifN W501 (pc' := 378) (hb hy at_375) (XT.i0_eq_f (by decide)) rfl ?_
        refine o_iload W501 (pc' := 380) (hb hy at_378) rfl rfl ?_
        refine o_iload W501 (pc' := 382) (hb hy at_380) rfl rfl ?_
        rcases (Classical.em ((p2 &&& (255 : Int32)) = (101 : Int32))).symm with hq502 | hq502
        · refine o_icmpY W501 (pc' := 392) (hb hy at_382) (XT.ii_ne_t hq502) (by decide) rfl ?_
          refine o_aconstNull W501 (pc' := 393) (hb hy at_392) rfl ?_
          refine o_astore W501 (L' := #[.val (.int p0), .val (.int p1), .val (.int p2), .val (.int p3), .val (.int 2), .val (.int 1), .val (.int (p2 &&& (255 : Int32))), .val (.ref b224), .val (.ref b232), .val (.ref b245), .val (.ref b254), .val (.ref b255), .val (.ref b263), .val (.ref b498), .val .null, .val (.ref b245), .val (.ref gO6), .val (.int 7), .val (.int 101)]) (pc' := 395) (hb hy at_393) rfl rfl rfl ?_
          refine o_goto W501 (pc' := 503) (hb hy at_395) (by decide) rfl ?_
          refine o_aload W501 (pc' := 505) (hb hy at_503) rfl rfl rfl ?_
          refine o_static W501 (y := (⟨"com/example/sessn/sessn/session/Weights", "labelled", "(Ljava/lang/String;)Lcom/example/sessn/sessn/session/Weights;"⟩ : MethodName)) (w34 hw) (w35 hw) (w2 hw) (w36 hw) (by decide) (argsL := [(.ref b498)]) (CtrN.back (Wd := 0) W501 (rm9 l Z a0 hw gCS gO1 gO2 gO4 gO6 gO8 gO9 gO10 gO11 gO12 gO13 k_gO2 k_gO9 k_gO11 k_gO13 b498 t501 kb501 [(100 : Int32), (105 : Int32), (115 : Int32), (116 : Int32), (97 : Int32), (110 : Int32), (99 : Int32), (p2 &&& (255 : Int32))] h501 W501.old SgO2__VALUES VgO2 XgO2 FitgO2 FgO1_label SgCS NgCS XgO8 FgO8_value FgO8_coder VgO9 X501 Fv501 Fc501 B501 ok500 (own_eqN (by simp)) FgO4_label XgO10 FgO10_value FgO10_coder VgO11 (own_eqN (by simp)) FgO6_label XgO12 FgO12_value FgO12_coder VgO13 (own_eqN (by simp [hq502, Ne.symm hq502]))) (w36 hw) (w2 hw) (by decide) (by decide)) (by rw [hml]; rfl) (lenOf pd3 rfl) (S := []) rfl (by exact Nat.le_of_eq rfl) (pc' := 508) (hb hy at_505) rfl (cells' := 9) (slots' := 60) rfl rfl (by decide) (by decide) (wy := []) (fun _ _ _ q => ⟨q.1, q.2.1⟩) all0 (fun _ _ => trivial) ?_
          intro v503 T503 h503 lo503 W503 K503 q503
          obtain rfl := q503.2.2
          show Gl _ _ _ _ _ _ _ _ [.null]
          refine o_aload W503 (pc' := 510) (hb hy at_508) rfl rfl rfl ?_
          refine o_acmpN W503 (pc' := 513) (hb hy at_510) rfl rfl (XT.aa_ne_f rfl) rfl ?_
          refine o_iconst W503 (v := 1) (pc' := 514) (hb hy at_513) rfl rfl ?_
          refine o_goto W503 (pc' := 518) (hb hy at_514) (by decide) rfl ?_
          exact o_retN W503 hlk (t := .boolean) hret (by simp) (z' := (1 : Int32)) (by decide) (hb hy at_518) (by decide) (by decide) rfl
        · refine o_icmpN W501 (pc' := 385) (hb hy at_382) (XT.ii_ne_f hq502) rfl ?_
          refine o_aload W501 (pc' := 387) (hb hy at_385) rfl rfl rfl ?_
          refine o_astore W501 (L' := #[.val (.int p0), .val (.int p1), .val (.int p2), .val (.int p3), .val (.int 2), .val (.int 1), .val (.int (p2 &&& (255 : Int32))), .val (.ref b224), .val (.ref b232), .val (.ref b245), .val (.ref b254), .val (.ref b255), .val (.ref b263), .val (.ref b498), .val (.ref gO6), .val (.ref b245), .val (.ref gO6), .val (.int 7), .val (.int 101)]) (pc' := 389) (hb hy at_387) rfl rfl rfl ?_
          refine o_goto W501 (pc' := 395) (hb hy at_389) (by decide) rfl ?_
          refine o_goto W501 (pc' := 503) (hb hy at_395) (by decide) rfl ?_
          refine o_aload W501 (pc' := 505) (hb hy at_503) rfl rfl rfl ?_
          refine o_static W501 (y := (⟨"com/example/sessn/sessn/session/Weights", "labelled", "(Ljava/lang/String;)Lcom/example/sessn/sessn/session/Weights;"⟩ : MethodName)) (w34 hw) (w35 hw) (w2 hw) (w36 hw) (by decide) (argsL := [(.ref b498)]) (CtrN.back (Wd := 0) W501 (rm4 l Z a0 hw gCS gO1 gO2 gO4 gO6 gO8 gO9 gO10 gO11 gO12 gO13 k_gO2 k_gO9 k_gO11 k_gO13 b498 t501 kb501 [(100 : Int32), (105 : Int32), (115 : Int32), (116 : Int32), (97 : Int32), (110 : Int32), (99 : Int32), (p2 &&& (255 : Int32))] h501 W501.old SgO2__VALUES VgO2 XgO2 FitgO2 FgO1_label SgCS NgCS XgO8 FgO8_value FgO8_coder VgO9 X501 Fv501 Fc501 B501 ok500 (own_eqN (by simp)) FgO4_label XgO10 FgO10_value FgO10_coder VgO11 (own_eqN (by simp)) FgO6_label XgO12 FgO12_value FgO12_coder VgO13 (own_eqY (by simp [hq502]))) (w36 hw) (w2 hw) (by decide) (by decide)) (by rw [hml]; rfl) (lenOf pd3 rfl) (S := []) rfl (by exact Nat.le_of_eq rfl) (pc' := 508) (hb hy at_505) rfl (cells' := 9) (slots' := 60) rfl rfl (by decide) (by decide) (wy := []) (fun _ _ _ q => ⟨q.1, q.2.1⟩) all0 (fun _ _ => trivial) ?_
          intro v504 T504 h504 lo504 W504 K504 q504
          obtain rfl := q504.2.2
          show Gl _ _ _ _ _ _ _ _ [(.ref gO6)]
          refine o_aload W504 (pc' := 510) (hb hy at_508) rfl rfl rfl ?_
          refine o_acmpN W504 (pc' := 513) (hb hy at_510) rfl rfl (XT.aa_ne_f rfl) rfl ?_
          refine o_iconst W504 (v := 1) (pc' := 514) (hb hy at_513) rfl rfl ?_
          refine o_goto W504 (pc' := 518) (hb hy at_514) (by decide) rfl ?_
          exact o_retN W504 hlk (t := .boolean) hret (by simp) (z' := (1 : Int32)) (by decide) (hb hy at_518) (by decide) (by decide) rfl
    · rw [ek272]
      refine o_iload W271 (pc' := 285) (hb hy at_283) rfl rfl ?_
      refine o_iconst W271 (v := 3) (pc' := 286) (hb hy at_285) rfl rfl ?_
      refine o_icmpY W271 (pc' := 398) (hb hy at_286) (XT.ii_ge_t (by decide)) (by decide) rfl ?_
      refine o_iloadN W271 (pc' := 399) (hb hy at_398) rfl rfl ?_
      refine o_iconst W271 (v := 2) (pc' := 400) (hb hy at_399) rfl rfl ?_
      refine o_iushr W271 (v := ((p0.toUInt32 >>> ((2 : Int32) &&& 31).toUInt32).toInt32)) (pc' := 401) (hb hy at_400) rfl rfl ?_
      refine o_iconst W271 (v := 3) (pc' := 402) (hb hy at_401) rfl rfl ?_
      rcases own_and3 ((p0.toUInt32 >>> ((2 : Int32) &&& 31).toUInt32).toInt32) with ek505 | ek505 | ek505 | ek505
      · refine o_iand W271 (v := 0) (pc' := 403) (hb hy at_402) ek505 rfl ?_
        refine o_istore W271 (L' := #[.val (.int p0), .val (.int p1), .val (.int p2), .val (.int p3), .val (.int 3), .val (.int 1), .val (.int (p2 &&& (255 : Int32))), .val (.ref b224), .val (.ref b232), .val (.ref b245), .val (.ref b254), .val (.ref b255), .val (.ref b263), .unset, .unset, .val (.int 0), .unset, .unset, .unset]) (pc' := 405) (hb hy at_403) rfl rfl ?_
        refine o_aconstNull W271 (pc' := 406) (hb hy at_405) rfl ?_
        refine o_astore W271 (L' := #[.val (.int p0), .val (.int p1), .val (.int p2), .val (.int p3), .val (.int 3), .val (.int 1), .val (.int (p2 &&& (255 : Int32))), .val (.ref b224), .val (.ref b232), .val (.ref b245), .val (.ref b254), .val (.ref b255), .val (.ref b263), .unset, .val .null, .val (.int 0), .unset, .unset, .unset]) (pc' := 408) (hb hy at_406) rfl rfl rfl ?_
        refine o_iload W271 (pc' := 410) (hb hy at_408) rfl rfl ?_
        refine o_ifN W271 (pc' := 413) (hb hy at_410) (XT.i0_ne_f (by decide)) rfl ?_
        refine o_aconstNull W271 (pc' := 414) (hb hy at_413) rfl ?_
        refine o_astore W271 (L' := #[.val (.int p0), .val (.int p1), .val (.int p2), .val (.int p3), .val (.int 3), .val (.int 1), .val (.int (p2 &&& (255 : Int32))), .val (.ref b224), .val (.ref b232), .val (.ref b245), .val (.ref b254), .val (.ref b255), .val (.ref b263), .val .null, .val .null, .val (.int 0), .unset, .unset, .unset]) (pc' := 416) (hb hy at_414) rfl rfl rfl ?_
        refine o_goto W271 (pc' := 503) (hb hy at_416) (by decide) rfl ?_
        refine o_aload W271 (pc' := 505) (hb hy at_503) rfl rfl rfl ?_
        refine o_static W271 (y := (⟨"com/example/sessn/sessn/session/Weights", "labelled", "(Ljava/lang/String;)Lcom/example/sessn/sessn/session/Weights;"⟩ : MethodName)) (w34 hw) (w35 hw) (w2 hw) (w36 hw) (by decide) (argsL := [.null]) (CtrN.back (Wd := 0) W271 (rm8 l Z a0 hw gO1 gO2 gO4 gO6 gO8 gO10 gO12 k_gO2 h271 W271.old SgO2__VALUES VgO2 XgO2 FitgO2 FgO1_label XgO8 FgO4_label XgO10 FgO6_label XgO12) (w36 hw) (w2 hw) (by decide) (by decide)) (by rw [hml]; rfl) (lenOf pd3 rfl) (S := []) rfl (by exact Nat.le_of_eq rfl) (pc' := 508) (hb hy at_505) rfl (cells' := 7) (slots' := 48) rfl rfl (by decide) (by decide) (wy := []) (fun _ _ _ q => ⟨q.1, q.2.1⟩) all0 (fun _ _ => trivial) ?_
        intro v506 T506 h506 lo506 W506 K506 q506
        obtain rfl := q506.2.2
        show Gl _ _ _ _ _ _ _ _ [.null]
        refine o_aload W506 (pc' := 510) (hb hy at_508) rfl rfl rfl ?_
        refine o_acmpN W506 (pc' := 513) (hb hy at_510) rfl rfl (XT.aa_ne_f rfl) rfl ?_
        refine o_iconst W506 (v := 1) (pc' := 514) (hb hy at_513) rfl rfl ?_
        refine o_goto W506 (pc' := 518) (hb hy at_514) (by decide) rfl ?_
        exact o_retN W506 hlk (t := .boolean) hret (by simp) (z' := (1 : Int32)) (by decide) (hb hy at_518) (by decide) (by decide) rfl
      · refine o_iand W271 (v := 1) (pc' := 403) (hb hy at_402) ek505 rfl ?_
        refine o_istore W271 (L' := #[.val (.int p0), .val (.int p1), .val (.int p2), .val (.int p3), .val (.int 3), .val (.int 1), .val (.int (p2 &&& (255 : Int32))), .val (.ref b224), .val (.ref b232), .val (.ref b245), .val (.ref b254), .val (.ref b255), .val (.ref b263), .unset, .unset, .val (.int 1), .unset, .unset, .unset]) (pc' := 405) (hb hy at_403) rfl rfl ?_
        refine o_aconstNull W271 (pc' := 406) (hb hy at_405) rfl ?_
        refine o_astore W271 (L' := #[.val (.int p0), .val (.int p1), .val (.int p2), .val (.int p3), .val (.int 3), .val (.int 1), .val (.int (p2 &&& (255 : Int32))), .val (.ref b224), .val (.ref b232), .val (.ref b245), .val (.ref b254), .val (.ref b255), .val (.ref b263), .unset, .val .null, .val (.int 1), .unset, .unset, .unset]) (pc' := 408) (hb hy at_406) rfl rfl rfl ?_
        refine o_iload W271 (pc' := 410) (hb hy at_408) rfl rfl ?_
        refine o_ifY W271 (pc' := 419) (hb hy at_410) (XT.i0_ne_t (by decide)) (by decide) rfl ?_
        refine o_iload W271 (pc' := 421) (hb hy at_419) rfl rfl ?_
        refine o_iconst W271 (v := 1) (pc' := 422) (hb hy at_421) rfl rfl ?_
        refine o_icmpN W271 (pc' := 425) (hb hy at_422) (XT.ii_ne_f (by decide)) rfl ?_
        refine o_aload W271 (pc' := 427) (hb hy at_425) rfl rfl rfl ?_
        refine o_iconst W271 (v := 0) (pc' := 428) (hb hy at_427) rfl rfl ?_
        refine o_iload W271 (pc' := 430) (hb hy at_428) rfl rfl ?_
        have c507 := ((((((((V254.ext E255).other R256 (own_ne V254.lt ge255)).other R257 (own_ne V254.lt ge255)).other R258 (own_ne V254.lt ge255)).other R259 (own_ne V254.lt ge255)).other R260 (own_ne V254.lt ge255)).other R261 (own_ne V254.lt ge255)).other R262 (own_ne V254.lt ge255))
        have c508 := (((((((((((((((((V254.ext E255).other R256 (own_ne V254.lt ge255)).other R257 (own_ne V254.lt ge255)).other R258 (own_ne V254.lt ge255)).other R259 (own_ne V254.lt ge255)).other R260 (own_ne V254.lt ge255)).other R261 (own_ne V254.lt ge255)).other R262 (own_ne V254.lt ge255)).ext E263).other R264 (own_ne c507.lt ge263)).other R265 (own_ne c507.lt ge263)).other R266 (own_ne c507.lt ge263)).other R267 (own_ne c507.lt ge263)).other R268 (own_ne c507.lt ge263)).other R269 (own_ne c507.lt ge263)).other R270 (own_ne c507.lt ge263)).other R271 (own_ne c507.lt ge263))
        refine o_stC W271 c508 (i := 0) (x' := (p2 &&& (255 : Int32))) (by decide) (by decide) (by decide) (Nat.lt_of_sub_eq_succ rfl) (own_i2c (own_b255 _)) (vs' := [(.int (p2 &&& (255 : Int32))), (.int 0), (.int 0)]) rfl gz254 (Or.inr gb254) (fun _ _ => trivial) (pc' := 431) (hb hy at_430) rfl ?_
        intro T509 h509 lo509 W509 R509 V509
        refine o_aload W509 (pc' := 433) (hb hy at_431) rfl rfl rfl ?_
        refine o_iconst W509 (v := 1) (pc' := 434) (hb hy at_433) rfl rfl ?_
        refine o_iloadN W509 (pc' := 435) (hb hy at_434) rfl rfl ?_
        refine o_sipush W509 (v := 255) (pc' := 438) (hb hy at_435) (by decide) rfl ?_
        refine o_iand W509 (v := (p1 &&& (255 : Int32))) (pc' := 439) (hb hy at_438) rfl rfl ?_
        refine o_i2c W509 (v := (p1 &&& (255 : Int32))) (pc' := 440) (hb hy at_439) (own_i2c (own_b255 _)) rfl ?_
        refine o_stC W509 V509 (i := 1) (x' := (p1 &&& (255 : Int32))) (by decide) (by decide) (by decide) (Nat.lt_of_sub_eq_succ rfl) (own_i2c (own_b255 _)) (vs' := [(.int (p2 &&& (255 : Int32))), (.int (p1 &&& (255 : Int32))), (.int 0)]) rfl gz254 (Or.inr gb254) (fun _ _ => trivial) (pc' := 441) (hb hy at_440) rfl ?_
        intro T510 h510 lo510 W510 R510 V510
        refine o_aload W510 (pc' := 443) (hb hy at_441) rfl rfl rfl ?_
        refine o_iconst W510 (v := 2) (pc' := 444) (hb hy at_443) rfl rfl ?_
        refine o_iloadN W510 (pc' := 445) (hb hy at_444) rfl rfl ?_
        refine o_sipush W510 (v := 255) (pc' := 448) (hb hy at_445) (by decide) rfl ?_
        refine o_iand W510 (v := (p3 &&& (255 : Int32))) (pc' := 449) (hb hy at_448) rfl rfl ?_
        refine o_i2c W510 (v := (p3 &&& (255 : Int32))) (pc' := 450) (hb hy at_449) (own_i2c (own_b255 _)) rfl ?_
        refine o_stC W510 V510 (i := 2) (x' := (p3 &&& (255 : Int32))) (by decide) (by decide) (by decide) (Nat.lt_of_sub_eq_succ rfl) (own_i2c (own_b255 _)) (vs' := [(.int (p2 &&& (255 : Int32))), (.int (p1 &&& (255 : Int32))), (.int (p3 &&& (255 : Int32)))]) rfl gz254 (Or.inr gb254) (fun _ _ => trivial) (pc' := 451) (hb hy at_450) rfl ?_
        intro T511 h511 lo511 W511 R511 V511
        refine o_new W511 (w5 hw) (w6 hw) (w7 hw) (fun _ _ => trivial) (pc' := 454) (hb hy at_451) rfl (cells' := 7) (slots' := 49) rfl rfl (by decide) (by decide) ?_
        intro b512 T512 h512 W512 E512 ge512 gz512 gb512 A512 D512
        have Fb512_coder : Fld Z h512 b512 "java/lang/String" "coder" "B" (.int 0) := D512 (Or.inr (w31 hw)) (ty := .byte) (by decide)
        have Fb512_value : Fld Z h512 b512 "java/lang/String" "value" "[B" .null := D512 (Or.inr (w33 hw)) (ty := (.array .byte)) (by decide)
        refine o_dup W512 (pc' := 455) (hb hy at_454) rfl rfl ?_
        refine o_aload W512 (pc' := 457) (hb hy at_455) rfl rfl rfl ?_
        have c513 := (V511.ext E512)
        have ok514 : own_ok [(p2 &&& (255 : Int32)), (p1 &&& (255 : Int32)), (p3 &&& (255 : Int32))] := ⟨by simp only [List.mem_cons, List.not_mem_nil, or_false, forall_eq_or_imp, forall_eq, false_imp_iff, implies_true]; exact ⟨(own_b255 _), (own_b255 _), (own_b255 _)⟩, Nat.le_of_ble_eq_true rfl⟩
        refine o_special W512 (y := (⟨"java/lang/String", "<init>", "([C)V"⟩ : MethodName)) rfl (w8 hw) (w9 hw) (w10 hw) (by decide) (a := b512) (argsL := [(.ref b254)]) (StrChars.Road.backV (W := 1) W512.2.2.2.1 (own_hV hw) (kI := 4) (w6 hw) (cs := [(p2 &&& (255 : Int32)), (p1 &&& (255 : Int32)), (p3 &&& (255 : Int32))]) (bs := [((p2 &&& (255 : Int32))).toInt8.toInt32, ((p1 &&& (255 : Int32))).toInt8.toInt32, ((p3 &&& (255 : Int32))).toInt8.toInt32]) (n := 3) (n0 := Z.heap.size) gz512 W512.zs A512 Fb512_value Fb512_coder c513 (SgCS.ext W512.ox) NgCS rfl rfl (by decide) (by decide) ok514.1 rfl (by decide) (by decide)) (by rw [hml]; rfl) (lenOf pd0 rfl) (S := [(.ref b512)]) rfl (by exact Nat.le_of_eq rfl) (pc' := 460) (hb hy at_457) rfl (cells' := 8) (slots' := 52) rfl rfl (by decide) (by decide) (wy := [b512]) (fun _ _ _ q => ⟨q.2.1, q.2.2.1⟩) (allS ⟨gz512, (Or.inr gb512)⟩ all0) (fun _ _ => trivial) ?_
        intro v515 T515 h515 lo515 W515 K515 q515
        obtain ⟨rfl, -, -, X515, Fc515, t515, kb515, gz515, ge515, -, Fv515, A515⟩ := q515
        have B515 : Arv Z h515 t515 kb515 .byte (3 : Int32) [(.int (StrChars.lo8 (p2 &&& (255 : Int32)))), (.int (StrChars.lo8 (p1 &&& (255 : Int32)))), (.int (StrChars.lo8 (p3 &&& (255 : Int32))))] (.int 0) := A515
        show Gl _ _ _ _ _ _ _ _ [(.ref b512)]
        refine o_astore W515 (L' := #[.val (.int p0), .val (.int p1), .val (.int p2), .val (.int p3), .val (.int 3), .val (.int 1), .val (.int (p2 &&& (255 : Int32))), .val (.ref b224), .val (.ref b232), .val (.ref b245), .val (.ref b254), .val (.ref b255), .val (.ref b263), .val (.ref b512), .val .null, .val (.int 1), .unset, .unset, .unset]) (pc' := 462) (hb hy at_460) rfl rfl rfl ?_
        refine o_goto W515 (pc' := 503) (hb hy at_462) (by decide) rfl ?_
        refine o_aload W515 (pc' := 505) (hb hy at_503) rfl rfl rfl ?_
        refine o_static W515 (y := (⟨"com/example/sessn/sessn/session/Weights", "labelled", "(Ljava/lang/String;)Lcom/example/sessn/sessn/session/Weights;"⟩ : MethodName)) (w34 hw) (w35 hw) (w2 hw) (w36 hw) (by decide) (argsL := [(.ref b512)]) (CtrN.back (Wd := 0) W515 (rm9 l Z a0 hw gCS gO1 gO2 gO4 gO6 gO8 gO9 gO10 gO11 gO12 gO13 k_gO2 k_gO9 k_gO11 k_gO13 b512 t515 kb515 [(p2 &&& (255 : Int32)), (p1 &&& (255 : Int32)), (p3 &&& (255 : Int32))] h515 W515.old SgO2__VALUES VgO2 XgO2 FitgO2 FgO1_label SgCS NgCS XgO8 FgO8_value FgO8_coder VgO9 X515 Fv515 Fc515 B515 ok514 (own_eqN (by simp)) FgO4_label XgO10 FgO10_value FgO10_coder VgO11 (own_eqN (by simp)) FgO6_label XgO12 FgO12_value FgO12_coder VgO13 (own_eqN (by simp))) (w36 hw) (w2 hw) (by decide) (by decide)) (by rw [hml]; rfl) (lenOf pd3 rfl) (S := []) rfl (by exact Nat.le_of_eq rfl) (pc' := 508) (hb hy at_505) rfl (cells' := 9) (slots' := 55) rfl rfl (by decide) (by decide) (wy := []) (fun _ _ _ q => ⟨q.1, q.2.1⟩) all0 (fun _ _ => trivial) ?_
        intro v516 T516 h516 lo516 W516 K516 q516
        obtain rfl := q516.2.2
        show Gl _ _ _ _ _ _ _ _ [.null]
        refine o_aload W516 (pc' := 510) (hb hy at_508) rfl rfl rfl ?_
        refine o_acmpN W516 (pc' := 513) (hb hy at_510) rfl rfl (XT.aa_ne_f rfl) rfl ?_
        refine o_iconst W516 (v := 1) (pc' := 514) (hb hy at_513) rfl rfl ?_
        refine o_goto W516 (pc' := 518) (hb hy at_514) (by decide) rfl ?_
        exact o_retN W516 hlk (t := .boolean) hret (by simp) (z' := (1 : Int32)) (by decide) (hb hy at_518) (by decide) (by decide) rfl
      · refine o_iand W271 (v := 2) (pc' := 403) (hb hy at_402) ek505 rfl ?_
        refine o_istore W271 (L' := #[.val (.int p0), .val (.int p1), .val (.int p2), .val (.int p3), .val (.int 3), .val (.int 1), .val (.int (p2 &&& (255 : Int32))), .val (.ref b224), .val (.ref b232), .val (.ref b245), .val (.ref b254), .val (.ref b255), .val (.ref b263), .unset, .unset, .val (.int 2), .unset, .unset, .unset]) (pc' := 405) (hb hy at_403) rfl rfl ?_
        refine o_aconstNull W271 (pc' := 406) (hb hy at_405) rfl ?_
        refine o_astore W271 (L' := #[.val (.int p0), .val (.int p1), .val (.int p2), .val (.int p3), .val (.int 3), .val (.int 1), .val (.int (p2 &&& (255 : Int32))), .val (.ref b224), .val (.ref b232), .val (.ref b245), .val (.ref b254), .val (.ref b255), .val (.ref b263), .unset, .val .null, .val (.int 2), .unset, .unset, .unset]) (pc' := 408) (hb hy at_406) rfl rfl rfl ?_
        refine o_iload W271 (pc' := 410) (hb hy at_408) rfl rfl ?_
        refine o_ifY W271 (pc' := 419) (hb hy at_410) (XT.i0_ne_t (by decide)) (by decide) rfl ?_
        refine o_iload W271 (pc' := 421) (hb hy at_419) rfl rfl ?_
        refine o_iconst W271 (v := 1) (pc' := 422) (hb hy at_421) rfl rfl ?_
        refine o_icmpY W271 (pc' := 465) (hb hy at_422) (XT.ii_ne_t (by decide)) (by decide) rfl ?_
        refine o_iload W271 (pc' := 467) (hb hy at_465) rfl rfl ?_
        refine o_iconst W271 (v := 2) (pc' := 468) (hb hy at_467) rfl rfl ?_
        refine o_icmpN W271 (pc' := 471) (hb hy at_468) (XT.ii_ne_f (by decide)) rfl ?_
        refine o_new W271 (w5 hw) (w6 hw) (w7 hw) (fun _ _ => trivial) (pc' := 474) (hb hy at_471) rfl (cells' := 7) (slots' := 49) rfl rfl (by decide) (by decide) ?_
        intro b517 T517 h517 W517 E517 ge517 gz517 gb517 A517 D517
        have Fb517_coder : Fld Z h517 b517 "java/lang/String" "coder" "B" (.int 0) := D517 (Or.inr (w31 hw)) (ty := .byte) (by decide)
        have Fb517_value : Fld Z h517 b517 "java/lang/String" "value" "[B" .null := D517 (Or.inr (w33 hw)) (ty := (.array .byte)) (by decide)
        refine o_dup W517 (pc' := 475) (hb hy at_474) rfl rfl ?_
        refine o_aload W517 (pc' := 477) (hb hy at_475) rfl rfl rfl ?_
        have c518 := ((((((((((V262.ext E263).other R264 (own_ne V262.lt ge263)).other R265 (own_ne V262.lt ge263)).other R266 (own_ne V262.lt ge263)).other R267 (own_ne V262.lt ge263)).other R268 (own_ne V262.lt ge263)).other R269 (own_ne V262.lt ge263)).other R270 (own_ne V262.lt ge263)).other R271 (own_ne V262.lt ge263)).ext E517)
        have ok519 : own_ok [(100 : Int32), (105 : Int32), (115 : Int32), (116 : Int32), (97 : Int32), (110 : Int32), (99 : Int32)] := ⟨by simp only [List.mem_cons, List.not_mem_nil, or_false, forall_eq_or_imp, forall_eq, false_imp_iff, implies_true]; exact ⟨(by unfold own_b; decide), (by unfold own_b; decide), (by unfold own_b; decide), (by unfold own_b; decide), (by unfold own_b; decide), (by unfold own_b; decide), (by unfold own_b; decide)⟩, Nat.le_of_ble_eq_true rfl⟩
        refine o_special W517 (y := (⟨"java/lang/String", "<init>", "([C)V"⟩ : MethodName)) rfl (w8 hw) (w9 hw) (w10 hw) (by decide) (a := b517) (argsL := [(.ref b255)]) (StrChars.Road.backV (W := 1) W517.2.2.2.1 (own_hV hw) (kI := 4) (w6 hw) (cs := [(100 : Int32), (105 : Int32), (115 : Int32), (116 : Int32), (97 : Int32), (110 : Int32), (99 : Int32)]) (bs := [((100 : Int32)).toInt8.toInt32, ((105 : Int32)).toInt8.toInt32, ((115 : Int32)).toInt8.toInt32, ((116 : Int32)).toInt8.toInt32, ((97 : Int32)).toInt8.toInt32, ((110 : Int32)).toInt8.toInt32, ((99 : Int32)).toInt8.toInt32]) (n := 7) (n0 := Z.heap.size) gz517 W517.zs A517 Fb517_value Fb517_coder c518 (SgCS.ext W517.ox) NgCS rfl rfl (by decide) (by decide) ok519.1 rfl (by decide) (by decide)) (by rw [hml]; rfl) (lenOf pd0 rfl) (S := [(.ref b517)]) rfl (by exact Nat.le_of_eq rfl) (pc' := 480) (hb hy at_477) rfl (cells' := 8) (slots' := 56) rfl rfl (by decide) (by decide) (wy := [b517]) (fun _ _ _ q => ⟨q.2.1, q.2.2.1⟩) (allS ⟨gz517, (Or.inr gb517)⟩ all0) (fun _ _ => trivial) ?_
        intro v520 T520 h520 lo520 W520 K520 q520
        obtain ⟨rfl, -, -, X520, Fc520, t520, kb520, gz520, ge520, -, Fv520, A520⟩ := q520
        have B520 : Arv Z h520 t520 kb520 .byte (7 : Int32) [(.int (StrChars.lo8 (100 : Int32))), (.int (StrChars.lo8 (105 : Int32))), (.int (StrChars.lo8 (115 : Int32))), (.int (StrChars.lo8 (116 : Int32))), (.int (StrChars.lo8 (97 : Int32))), (.int (StrChars.lo8 (110 : Int32))), (.int (StrChars.lo8 (99 : Int32)))] (.int 0) := A520
        show Gl _ _ _ _ _ _ _ _ [(.ref b517)]
        refine o_astore W520 (L' := #[.val (.int p0), .val (.int p1), .val (.int p2), .val (.int p3), .val (.int 3), .val (.int 1), .val (.int (p2 &&& (255 : Int32))), .val (.ref b224), .val (.ref b232), .val (.ref b245), .val (.ref b254), .val (.ref b255), .val (.ref b263), .val (.ref b517), .val .null, .val (.int 2), .unset, .unset, .unset]) (pc' := 482) (hb hy at_480) rfl rfl rfl ?_
        refine o_goto W520 (pc' := 503) (hb hy at_482) (by decide) rfl ?_
        refine o_aload W520 (pc' := 505) (hb hy at_503) rfl rfl rfl ?_
        refine o_static W520 (y := (⟨"com/example/sessn/sessn/session/Weights", "labelled", "(Ljava/lang/String;)Lcom/example/sessn/sessn/session/Weights;"⟩ : MethodName)) (w34 hw) (w35 hw) (w2 hw) (w36 hw) (by decide) (argsL := [(.ref b517)]) (CtrN.back (Wd := 0) W520 (rm9 l Z a0 hw gCS gO1 gO2 gO4 gO6 gO8 gO9 gO10 gO11 gO12 gO13 k_gO2 k_gO9 k_gO11 k_gO13 b517 t520 kb520 [(100 : Int32), (105 : Int32), (115 : Int32), (116 : Int32), (97 : Int32), (110 : Int32), (99 : Int32)] h520 W520.old SgO2__VALUES VgO2 XgO2 FitgO2 FgO1_label SgCS NgCS XgO8 FgO8_value FgO8_coder VgO9 X520 Fv520 Fc520 B520 ok519 (own_eqN (by simp)) FgO4_label XgO10 FgO10_value FgO10_coder VgO11 (own_eqN (by simp)) FgO6_label XgO12 FgO12_value FgO12_coder VgO13 (own_eqN (by simp))) (w36 hw) (w2 hw) (by decide) (by decide)) (by rw [hml]; rfl) (lenOf pd3 rfl) (S := []) rfl (by exact Nat.le_of_eq rfl) (pc' := 508) (hb hy at_505) rfl (cells' := 9) (slots' := 59) rfl rfl (by decide) (by decide) (wy := []) (fun _ _ _ q => ⟨q.1, q.2.1⟩) all0 (fun _ _ => trivial) ?_
        intro v521 T521 h521 lo521 W521 K521 q521
        obtain rfl := q521.2.2
        show Gl _ _ _ _ _ _ _ _ [.null]
        refine o_aload W521 (pc' := 510) (hb hy at_508) rfl rfl rfl ?_
        refine o_acmpN W521 (pc' := 513) (hb hy at_510) rfl rfl (XT.aa_ne_f rfl) rfl ?_
        refine o_iconst W521 (v := 1) (pc' := 514) (hb hy at_513) rfl rfl ?_
        refine o_goto W521 (pc' := 518) (hb hy at_514) (by decide) rfl ?_
        exact o_retN W521 hlk (t := .boolean) hret (by simp) (z' := (1 : Int32)) (by decide) (hb hy at_518) (by decide) (by decide) rfl
      · refine o_iand W271 (v := 3) (pc' := 403) (hb hy at_402) ek505 rfl ?_
        refine o_istore W271 (L' := #[.val (.int p0), .val (.int p1), .val (.int p2), .val (.int p3), .val (.int 3), .val (.int 1), .val (.int (p2 &&& (255 : Int32))), .val (.ref b224), .val (.ref b232), .val (.ref b245), .val (.ref b254), .val (.ref b255), .val (.ref b263), .unset, .unset, .val (.int 3), .unset, .unset, .unset]) (pc' := 405) (hb hy at_403) rfl rfl ?_
        refine o_aconstNull W271 (pc' := 406) (hb hy at_405) rfl ?_
        refine o_astore W271 (L' := #[.val (.int p0), .val (.int p1), .val (.int p2), .val (.int p3), .val (.int 3), .val (.int 1), .val (.int (p2 &&& (255 : Int32))), .val (.ref b224), .val (.ref b232), .val (.ref b245), .val (.ref b254), .val (.ref b255), .val (.ref b263), .unset, .val .null, .val (.int 3), .unset, .unset, .unset]) (pc' := 408) (hb hy at_406) rfl rfl rfl ?_
        refine o_iload W271 (pc' := 410) (hb hy at_408) rfl rfl ?_
        refine o_ifY W271 (pc' := 419) (hb hy at_410) (XT.i0_ne_t (by decide)) (by decide) rfl ?_
        refine o_iload W271 (pc' := 421) (hb hy at_419) rfl rfl ?_
        refine o_iconst W271 (v := 1) (pc' := 422) (hb hy at_421) rfl rfl ?_
        refine o_icmpY W271 (pc' := 465) (hb hy at_422) (XT.ii_ne_t (by decide)) (by decide) rfl ?_
        refine o_iload W271 (pc' := 467) (hb hy at_465) rfl rfl ?_
        refine o_iconst W271 (v := 2) (pc' := 468) (hb hy at_467) rfl rfl ?_
        refine o_icmpY W271 (pc' := 485) (hb hy at_468) (XT.ii_ne_t (by decide)) (by decide) rfl ?_
        refine o_aload W271 (pc' := 487) (hb hy at_485) rfl rfl rfl ?_
        refine o_bipush W271 (v := 7) (pc' := 489) (hb hy at_487) (by decide) rfl ?_
        refine o_iload W271 (pc' := 491) (hb hy at_489) rfl rfl ?_
        refine o_stC W271 V271 (i := 7) (x' := (p2 &&& (255 : Int32))) (by decide) (by decide) (by decide) (Nat.lt_of_sub_eq_succ rfl) (own_i2c (own_b255 _)) (vs' := [(.int 117), (.int 110), (.int 105), (.int 102), (.int 111), (.int 114), (.int 109), (.int (p2 &&& (255 : Int32)))]) rfl gz263 (Or.inr gb263) (fun _ _ => trivial) (pc' := 492) (hb hy at_491) rfl ?_
        intro T522 h522 lo522 W522 R522 V522
        refine o_new W522 (w5 hw) (w6 hw) (w7 hw) (fun _ _ => trivial) (pc' := 495) (hb hy at_492) rfl (cells' := 7) (slots' := 49) rfl rfl (by decide) (by decide) ?_
        intro b523 T523 h523 W523 E523 ge523 gz523 gb523 A523 D523
        have Fb523_coder : Fld Z h523 b523 "java/lang/String" "coder" "B" (.int 0) := D523 (Or.inr (w31 hw)) (ty := .byte) (by decide)
        have Fb523_value : Fld Z h523 b523 "java/lang/String" "value" "[B" .null := D523 (Or.inr (w33 hw)) (ty := (.array .byte)) (by decide)
        refine o_dup W523 (pc' := 496) (hb hy at_495) rfl rfl ?_
        refine o_aload W523 (pc' := 498) (hb hy at_496) rfl rfl rfl ?_
        have c524 := (V522.ext E523)
        have ok525 : own_ok [(117 : Int32), (110 : Int32), (105 : Int32), (102 : Int32), (111 : Int32), (114 : Int32), (109 : Int32), (p2 &&& (255 : Int32))] := ⟨by simp only [List.mem_cons, List.not_mem_nil, or_false, forall_eq_or_imp, forall_eq, false_imp_iff, implies_true]; exact ⟨(by unfold own_b; decide), (by unfold own_b; decide), (by unfold own_b; decide), (by unfold own_b; decide), (by unfold own_b; decide), (by unfold own_b; decide), (by unfold own_b; decide), (own_b255 _)⟩, Nat.le_of_ble_eq_true rfl⟩
        refine o_special W523 (y := (⟨"java/lang/String", "<init>", "([C)V"⟩ : MethodName)) rfl (w8 hw) (w9 hw) (w10 hw) (by decide) (a := b523) (argsL := [(.ref b263)]) (StrChars.Road.backV (W := 1) W523.2.2.2.1 (own_hV hw) (kI := 4) (w6 hw) (cs := [(117 : Int32), (110 : Int32), (105 : Int32), (102 : Int32), (111 : Int32), (114 : Int32), (109 : Int32), (p2 &&& (255 : Int32))]) (bs := [((117 : Int32)).toInt8.toInt32, ((110 : Int32)).toInt8.toInt32, ((105 : Int32)).toInt8.toInt32, ((102 : Int32)).toInt8.toInt32, ((111 : Int32)).toInt8.toInt32, ((114 : Int32)).toInt8.toInt32, ((109 : Int32)).toInt8.toInt32, ((p2 &&& (255 : Int32))).toInt8.toInt32]) (n := 8) (n0 := Z.heap.size) gz523 W523.zs A523 Fb523_value Fb523_coder c524 (SgCS.ext W523.ox) NgCS rfl rfl (by decide) (by decide) ok525.1 rfl (by decide) (by decide)) (by rw [hml]; rfl) (lenOf pd0 rfl) (S := [(.ref b523)]) rfl (by exact Nat.le_of_eq rfl) (pc' := 501) (hb hy at_498) rfl (cells' := 8) (slots' := 57) rfl rfl (by decide) (by decide) (wy := [b523]) (fun _ _ _ q => ⟨q.2.1, q.2.2.1⟩) (allS ⟨gz523, (Or.inr gb523)⟩ all0) (fun _ _ => trivial) ?_
        intro v526 T526 h526 lo526 W526 K526 q526
        obtain ⟨rfl, -, -, X526, Fc526, t526, kb526, gz526, ge526, -, Fv526, A526⟩ := q526
        have B526 : Arv Z h526 t526 kb526 .byte (8 : Int32) [(.int (StrChars.lo8 (117 : Int32))), (.int (StrChars.lo8 (110 : Int32))), (.int (StrChars.lo8 (105 : Int32))), (.int (StrChars.lo8 (102 : Int32))), (.int (StrChars.lo8 (111 : Int32))), (.int (StrChars.lo8 (114 : Int32))), (.int (StrChars.lo8 (109 : Int32))), (.int (StrChars.lo8 (p2 &&& (255 : Int32))))] (.int 0) := A526
        show Gl _ _ _ _ _ _ _ _ [(.ref b523)]
        refine o_astore W526 (L' := #[.val (.int p0), .val (.int p1), .val (.int p2), .val (.int p3), .val (.int 3), .val (.int 1), .val (.int (p2 &&& (255 : Int32))), .val (.ref b224), .val (.ref b232), .val (.ref b245), .val (.ref b254), .val (.ref b255), .val (.ref b263), .val (.ref b523), .val .null, .val (.int 3), .unset, .unset, .unset]) (pc' := 503) (hb hy at_501) rfl rfl rfl ?_
        refine o_aload W526 (pc' := 505) (hb hy at_503) rfl rfl rfl ?_
        refine o_static W526 (y := (⟨"com/example/sessn/sessn/session/Weights", "labelled", "(Ljava/lang/String;)Lcom/example/sessn/sessn/session/Weights;"⟩ : MethodName)) (w34 hw) (w35 hw) (w2 hw) (w36 hw) (by decide) (argsL := [(.ref b523)]) (CtrN.back (Wd := 0) W526 (rm9 l Z a0 hw gCS gO1 gO2 gO4 gO6 gO8 gO9 gO10 gO11 gO12 gO13 k_gO2 k_gO9 k_gO11 k_gO13 b523 t526 kb526 [(117 : Int32), (110 : Int32), (105 : Int32), (102 : Int32), (111 : Int32), (114 : Int32), (109 : Int32), (p2 &&& (255 : Int32))] h526 W526.old SgO2__VALUES VgO2 XgO2 FitgO2 FgO1_label SgCS NgCS XgO8 FgO8_value FgO8_coder VgO9 X526 Fv526 Fc526 B526 ok525 (own_eqN (by simp)) FgO4_label XgO10 FgO10_value FgO10_coder VgO11 (own_eqN (by simp)) FgO6_label XgO12 FgO12_value FgO12_coder VgO13 (own_eqN (by simp))) (w36 hw) (w2 hw) (by decide) (by decide)) (by rw [hml]; rfl) (lenOf pd3 rfl) (S := []) rfl (by exact Nat.le_of_eq rfl) (pc' := 508) (hb hy at_505) rfl (cells' := 9) (slots' := 60) rfl rfl (by decide) (by decide) (wy := []) (fun _ _ _ q => ⟨q.1, q.2.1⟩) all0 (fun _ _ => trivial) ?_
        intro v527 T527 h527 lo527 W527 K527 q527
        obtain rfl := q527.2.2
        show Gl _ _ _ _ _ _ _ _ [.null]
        refine o_aload W527 (pc' := 510) (hb hy at_508) rfl rfl rfl ?_
        refine o_acmpN W527 (pc' := 513) (hb hy at_510) rfl rfl (XT.aa_ne_f rfl) rfl ?_
        refine o_iconst W527 (v := 1) (pc' := 514) (hb hy at_513) rfl rfl ?_
        refine o_goto W527 (pc' := 518) (hb hy at_514) (by decide) rfl ?_
        exact o_retN W527 hlk (t := .boolean) hret (by simp) (z' := (1 : Int32)) (by decide) (hb hy at_518) (by decide) (by decide) rfl
theorem comes_1 {Post : Tables → Env → Array Value → State → Outcome → State → Prop} (hpost : ∀ tb e args s v u, (limb_1_1.after args s (.returned v) u = true ∧ limb_1_2.after args s (.returned v) u = true ∧ True) → FrameEnd s (.returned v) u (Jvm.fieldLocs frame_1_writes args s ++ Jvm.arrayLocs frame_1_arrays args s ++ Jvm.staticLocs frame_1_statics s) 32 192 → Post tb e args s (.returned v) u) :
    ArmFor flags0 classFile x code maxLocals ret World_1 tables_1 room_1 Calls_1 rest_1 Pre_1 Post := by
  intro l hfl _ _ p e ha hc hk s m args below hf hA hF happ hP
  obtain ⟨hcalls, hrest, hpre⟩ := hP
  obtain ⟨-, -, -, hnamed, -, -, -, hat⟩ := (Spec.applies_iff hf).mp happ
  obtain ⟨hg, hn⟩ := and_e (Cond.before_iff.mp (show (Jvm.Cond.and given_1 narrow_1).before args s = true from hpre))
  obtain ⟨g1, g2⟩ := and_e hg
  obtain ⟨g3, g4⟩ := and_e g2
  obtain ⟨g5, g6⟩ := and_e g4
  obtain ⟨g7, g8⟩ := and_e g6
  obtain ⟨w0, w1, w2, w3, rfl⟩ : ∃ w0 w1 w2 w3 : Value, args = #[w0, w1, w2, w3] := by
    have hs : args.size = 4 := by simpa [Cond.value, given_1] using g1
    obtain ⟨L⟩ := args
    match L, hs with
    | [w0, w1, w2, w3], _ => exact ⟨w0, w1, w2, w3, rfl⟩
  obtain ⟨i0, ei0⟩ := is_v g3
  obtain rfl : w0 = (.int i0) := Option.some.inj ei0
  obtain ⟨i1, ei1⟩ := is_v g5
  obtain rfl : w1 = (.int i1) := Option.some.inj ei1
  obtain ⟨i2, ei2⟩ := is_v g7
  obtain rfl : w2 = (.int i2) := Option.some.inj ei2
  obtain ⟨i3, ei3⟩ := is_v g8
  obtain rfl : w3 = (.int i3) := Option.some.inj ei3
  have hw := fun d (hd : d ∈ tables_1) => atoms_spec (ws := Jvm.Cond.code x code maxLocals ret :: tables_1) hat d (List.mem_cons_of_mem _ hd)
  have hfit : Fit s := fun {y c} hc i hi => by
    obtain ⟨ha, rfl⟩ := Array.getElem?_eq_some_iff.mp hc
    have q := List.all_eq_true.mp ((Array.all_eq_true_iff_forall_mem.mp hF) _ (Array.getElem_mem ha)) i (List.mem_range.mpr hi)
    simpa [Array.getElem?_eq_getElem hi] using q
  obtain ⟨hsets, hown0⟩ := atoms_of _ (rest_1_c_eq ▸ (show rest_1_c.before _ s = true from hrest))
  obtain ⟨gCS, eCS⟩ := is_v (Cond.before_iff.mp (hsets _ (List.mem_of_getElem? (i := 1) rfl)))
  have SgCS := Sta.start eCS (Or.inl (hsets _ (List.mem_of_getElem? (i := 0) rfl)))
  have NgCS : ¬ (gCS = (0 : Int32)) := gotF (own_eqS eCS) (not_v (Cond.before_iff.mp (hsets _ (List.mem_of_getElem? (i := 2) rfl))))
  obtain ⟨nn0, hn0⟩ := and_e hn
  obtain ⟨nn1, hn1⟩ := and_e hn0
  obtain ⟨nn2, hn2⟩ := and_e hn1
  obtain ⟨nn3, hn3⟩ := and_e hn2
  obtain ⟨nn4, hn4⟩ := and_e hn3
  obtain ⟨nn5, hn5⟩ := and_e hn4
  obtain ⟨nn6, hn6⟩ := and_e hn5
  obtain ⟨nn7, hn7⟩ := and_e hn6
  obtain ⟨nn8, hn8⟩ := and_e hn7
  obtain ⟨nn9, hn9⟩ := and_e hn8
  obtain ⟨nn10, hn10⟩ := and_e hn9
  obtain ⟨nn11, hn11⟩ := and_e hn10
  obtain ⟨nn12, hn12⟩ := and_e hn11
  obtain ⟨nn13, hn13⟩ := and_e hn12
  obtain ⟨nn14, hn14⟩ := and_e hn13
  obtain ⟨nn15, hn15⟩ := and_e hn14
  obtain ⟨nn16, hn16⟩ := and_e hn15
  obtain ⟨nn17, hn17⟩ := and_e hn16
  obtain ⟨nn18, hn18⟩ := and_e hn17
  obtain ⟨nn19, hn19⟩ := and_e hn18
  obtain ⟨nn20, hn20⟩ := and_e hn19
  obtain ⟨nn21, hn21⟩ := and_e hn20
  obtain ⟨nn22, hn22⟩ := and_e hn21
  obtain ⟨nn23, hn23⟩ := and_e hn22
  obtain ⟨nn24, hn24⟩ := and_e hn23
  obtain ⟨nn25, hn25⟩ := and_e hn24
  obtain ⟨nn26, hn26⟩ := and_e hn25
  obtain ⟨nn27, hn27⟩ := and_e hn26
  obtain ⟨nn28, hn28⟩ := and_e hn27
  obtain ⟨nn29, hn29⟩ := and_e hn28
  obtain ⟨nn30, hn30⟩ := and_e hn29
  obtain ⟨nn31, hn31⟩ := and_e hn30
  obtain ⟨nn32, hn32⟩ := and_e hn31
  obtain ⟨nn33, hn33⟩ := and_e hn32
  obtain ⟨nn34, hn34⟩ := and_e hn33
  obtain ⟨nn35, hn35⟩ := and_e hn34
  obtain ⟨nn36, hn36⟩ := and_e hn35
  obtain ⟨nn37, hn37⟩ := and_e hn36
  obtain ⟨nn38, hn38⟩ := and_e hn37
  obtain ⟨nn39, hn39⟩ := and_e hn38
  obtain ⟨nn40, hn40⟩ := and_e hn39
  obtain ⟨nn41, hn41⟩ := and_e hn40
  obtain ⟨nn42, hn42⟩ := and_e hn41
  obtain ⟨nn43, hn43⟩ := and_e hn42
  obtain ⟨nn44, hn44⟩ := and_e hn43
  obtain ⟨nn45, hn45⟩ := and_e hn44
  obtain ⟨nn46, hn46⟩ := and_e hn45
  obtain ⟨gO1, evgO1⟩ := exa_v nn0
  have SgO1_UNIFORM := Sta.start evgO1 (Or.inr ⟨(w2 hw), (w3 hw)⟩)
  have XgO1 := Exa.start evgO1 nn0
  obtain ⟨gO2, evgO2⟩ := arr_v nn1
  have SgO2__VALUES := Sta.start evgO2 (Or.inl (w51 hw))
  have XgO2 := Exa.start evgO2 nn2
  have eq3 := own_eqR nn4 evgO1
  obtain ⟨gO4, evgO4⟩ := exa_v nn5
  have SgO4_PREV_CURRENT := Sta.start evgO4 (Or.inr ⟨(w2 hw), (w49 hw)⟩)
  have XgO4 := Exa.start evgO4 nn5
  have eq5 := own_eqR nn6 evgO4
  obtain ⟨gO6, evgO6⟩ := exa_v nn7
  have SgO6_DISTANCE := Sta.start evgO6 (Or.inr ⟨(w2 hw), (w50 hw)⟩)
  have XgO6 := Exa.start evgO6 nn7
  have eq7 := own_eqR nn8 evgO6
  obtain ⟨gO8, evgO8⟩ := exa_v nn9
  have FgO1_label := Fld.start ((fld_at evgO1).symm.trans evgO8)
  have XgO8 := Exa.start evgO8 nn9
  have FgO8_coder := own_fI evgO8 nn10
  obtain ⟨gO9, evgO9⟩ := arr_v nn11
  have FgO8_value := Fld.start ((fld_at evgO8).symm.trans evgO9)
  obtain ⟨gO10, evgO10⟩ := exa_v nn13
  have FgO4_label := Fld.start ((fld_at evgO4).symm.trans evgO10)
  have XgO10 := Exa.start evgO10 nn13
  have FgO10_coder := own_fI evgO10 nn14
  obtain ⟨gO11, evgO11⟩ := arr_v nn15
  have FgO10_value := Fld.start ((fld_at evgO10).symm.trans evgO11)
  obtain ⟨gO12, evgO12⟩ := exa_v nn17
  have FgO6_label := Fld.start ((fld_at evgO6).symm.trans evgO12)
  have XgO12 := Exa.start evgO12 nn17
  have FgO12_coder := own_fI evgO12 nn18
  obtain ⟨gO13, evgO13⟩ := arr_v nn19
  have FgO12_value := Fld.start ((fld_at evgO12).symm.trans evgO13)
  obtain ⟨cl_gO2, AgO2⟩ := Arr.start evgO2 nn1
  obtain ⟨zgO2, ygO2⟩ := own_len evgO2 AgO2 nn3
  have VgO2 : Arv s s.heap gO2 cl_gO2.cls (.object "com/example/sessn/sessn/session/Weights") (3 : Int32) [(.ref gO1), (.ref gO4), (.ref gO6)] .null := Arv.start hfit AgO2 zgO2 ygO2 (by decide) rfl ⟨own_elR evgO2 AgO2 eq3 (k := 0) (by decide), own_elR evgO2 AgO2 eq5 (k := 1) (by decide), own_elR evgO2 AgO2 eq7 (k := 2) (by decide), trivial⟩
  obtain ⟨cl_gO9, AgO9⟩ := Arr.start evgO9 nn11
  obtain ⟨zgO9, ygO9⟩ := own_len evgO9 AgO9 nn12
  have VgO9 : Arv s s.heap gO9 cl_gO9.cls .byte (7 : Int32) [(.int 117), (.int 110), (.int 105), (.int 102), (.int 111), (.int 114), (.int 109)] (.int 0) := Arv.start hfit AgO9 zgO9 ygO9 (by decide) rfl ⟨own_elI evgO9 AgO9 nn21 (k := 0) (by decide), own_elI evgO9 AgO9 nn22 (k := 1) (by decide), own_elI evgO9 AgO9 nn23 (k := 2) (by decide), own_elI evgO9 AgO9 nn24 (k := 3) (by decide), own_elI evgO9 AgO9 nn25 (k := 4) (by decide), own_elI evgO9 AgO9 nn26 (k := 5) (by decide), own_elI evgO9 AgO9 nn27 (k := 6) (by decide), trivial⟩
  obtain ⟨cl_gO11, AgO11⟩ := Arr.start evgO11 nn15
  obtain ⟨zgO11, ygO11⟩ := own_len evgO11 AgO11 nn16
  have VgO11 : Arv s s.heap gO11 cl_gO11.cls .byte (12 : Int32) [(.int 112), (.int 114), (.int 101), (.int 118), (.int 45), (.int 99), (.int 117), (.int 114), (.int 114), (.int 101), (.int 110), (.int 116)] (.int 0) := Arv.start hfit AgO11 zgO11 ygO11 (by decide) rfl ⟨own_elI evgO11 AgO11 nn28 (k := 0) (by decide), own_elI evgO11 AgO11 nn29 (k := 1) (by decide), own_elI evgO11 AgO11 nn30 (k := 2) (by decide), own_elI evgO11 AgO11 nn31 (k := 3) (by decide), own_elI evgO11 AgO11 nn32 (k := 4) (by decide), own_elI evgO11 AgO11 nn33 (k := 5) (by decide), own_elI evgO11 AgO11 nn34 (k := 6) (by decide), own_elI evgO11 AgO11 nn35 (k := 7) (by decide), own_elI evgO11 AgO11 nn36 (k := 8) (by decide), own_elI evgO11 AgO11 nn37 (k := 9) (by decide), own_elI evgO11 AgO11 nn38 (k := 10) (by decide), own_elI evgO11 AgO11 nn39 (k := 11) (by decide), trivial⟩
  obtain ⟨cl_gO13, AgO13⟩ := Arr.start evgO13 nn19
  obtain ⟨zgO13, ygO13⟩ := own_len evgO13 AgO13 nn20
  have VgO13 : Arv s s.heap gO13 cl_gO13.cls .byte (8 : Int32) [(.int 100), (.int 105), (.int 115), (.int 116), (.int 97), (.int 110), (.int 99), (.int 101)] (.int 0) := Arv.start hfit AgO13 zgO13 ygO13 (by decide) rfl ⟨own_elI evgO13 AgO13 nn40 (k := 0) (by decide), own_elI evgO13 AgO13 nn41 (k := 1) (by decide), own_elI evgO13 AgO13 nn42 (k := 2) (by decide), own_elI evgO13 AgO13 nn43 (k := 3) (by decide), own_elI evgO13 AgO13 nn44 (k := 4) (by decide), own_elI evgO13 AgO13 nn45 (k := 5) (by decide), own_elI evgO13 AgO13 nn46 (k := 6) (by decide), own_elI evgO13 AgO13 hn46 (k := 7) (by decide), trivial⟩
  have FitgO2 : ∀ cl, s.heap[gO2]? = some cl → FitC s cl := fun cl q => by
    obtain ⟨c2, A2, -⟩ := VgO2
    cases q.symm.trans A2.1
    exact FitC.start hfit A2
  obtain ⟨n, o, h1, h2, h3, _, L, rfl, ⟨N, -, rfl⟩, hq⟩ := rm_law l s _ hw gCS gO1 gO2 gO4 gO6 gO8 gO9 gO10 gO11 gO12 gO13 cl_gO2.cls cl_gO9.cls cl_gO11.cls cl_gO13.cls i0 i1 i2 i3 s.heap (Old.start s) SgO1_UNIFORM SgCS NgCS SgO2__VALUES VgO2 XgO2 FitgO2 FgO1_label XgO8 FgO8_value FgO8_coder VgO9 FgO4_label XgO10 FgO10_value FgO10_coder VgO11 FgO6_label XgO12 FgO12_value FgO12_coder VgO13 SgO4_PREV_CURRENT SgO6_DISTANCE p e ha hc hk s m _ below hf ((Spec.applies_iff_loose hf).mp happ).1 ⟨rfl, State.Warmed39.refl s, rfl⟩ trivial
  refine ⟨n, _, h1, h2, h3, hpost _ _ _ _ _ _ ⟨Cond.after_iff.mpr rfl, Cond.after_iff.mpr (eq_i res_at (Term.int_eval (1)) rfl), trivial⟩ ⟨hq.1, hq.2.1, (hq.2.2.sift fun y hy => Or.inr (N y hy)).mono (by decide) (by decide)⟩⟩
theorem main_1_1 : Claimed_1_1 := comes_1 fun _ _ _ _ _ _ h hF => ⟨h.1, hF⟩
theorem main_1_2 : Claimed_1_2 := comes_1 fun _ _ _ _ _ _ h hF => ⟨h.2.1, hF⟩
end Jvm.Pilot.@@N@@
namespace Jvm.Pilot.@@N@@
open Jvm Jvm.ClassFile Sem Op Lib Jvm.Free Jvm.Stand Jvm.Pilot.@@N@@.Jvm.D
/-! MADE BY PROGRAM (witnessworld.py) out of the Statement's table words and the real class files: 22 classes; the members and pool entries that the words name. The judged class is class 1, her method 1. -/
namespace start1
open Jvm.ClassFile
def u (s : String) : CpInfo := .utf8 (stringToUtf16 s)
/-- a pool by its gaps: so many unusable entries, then the entry; so many at the end -/
def gap : Nat → List CpInfo → List CpInfo
  | 0, r => r
  | n + 1, r => .unusable :: gap n r
def poolList (es : List (Nat × CpInfo)) (last : Nat) : List CpInfo := es.foldr (fun e r => gap e.1 (e.2 :: r)) (gap last [])
def pool (es : List (Nat × CpInfo)) (last : Nat) : Array CpInfo := ⟨poolList es last⟩
def fileOf (pool : Array CpInfo) (this : Nat) (attrs : Array Attribute := #[]) (ms : Array MethodInfo := #[]) (fl : Nat := 33) (sup : Nat := 0) (ifs : Array Nat := #[]) (fds : Array FieldInfo := #[]) : ClassFile where
  minorVersion := 0
  majorVersion := 65
  constantPool := pool
  accessFlags := fl
  thisClass := this
  superClass := sup
  interfaces := ifs
  fields := fds
  methods := ms
  attributes := attrs
def plain (name : String) (sup : Option ClassId) : Class where
  name := name
  kind := .ordinary
  loader := none
  accessFlags := 33
  super := sup
  interfaces := #[]
  cf := none
  fields := #[]
  methods := #[]
  instanceTypes := #[]
  staticTypes := #[]
  resolved := #[]
  callSites := []
  init := .initialized
  statics := none
  mirror := none

def pool0 : Array CpInfo := pool [(5, u "<init>"), (0, u "()V"), (1, .class_ 10), (1, u "java/lang/Object"), (85, u "clone"), (0, u "()Ljava/lang/Object;")] 26

def k0c0 : Code := { maxStack := 0, maxLocals := 1, code := object_method_1_code, exceptionTable := #[], attributes := #[] }
def k0m0 : Method := { name := "<init>", desc := "()V", sig := { parameters := [], returnType := none }, accessFlags := 1, code := some k0c0 }
def k0m1 : Method := { name := "clone", desc := "()Ljava/lang/Object;", sig := { parameters := [], returnType := some (.object "java/lang/Object") }, accessFlags := 260, code := none }
/-- java/lang/Object -/
def k0 : Class := { plain "java/lang/Object" none with
  accessFlags := 33
  interfaces := #[]
  cf := some (fileOf pool0 8 #[] #[⟨1, 5, 6, #[]⟩, ⟨260, 96, 97, #[]⟩] 33 0 #[] #[])
  fields := #[]
  methods := #[k0m0, k0m1]
  instanceTypes := #[]
  staticTypes := #[]
  resolved := Array.replicate 124 none
  statics := none }

def pool1 : Array CpInfo := pool [(2, .class_ 4), (1, u "java/lang/Object"), (0, u "<init>"), (0, u "()V"), (0, .fieldref 8 9), (0, .class_ 10), (0, .nameAndType 11 12), (0, u "com/example/sessn/sessn/session/Weights"), (0, u "UNIFORM"), (0, u "Lcom/example/sessn/sessn/session/Weights;"), (0, .fieldref 8 14), (0, .nameAndType 15 12), (0, u "PREV_CURRENT"), (0, .fieldref 8 17), (0, .nameAndType 18 12), (0, u "DISTANCE"), (0, .integer 2147483647), (0, .class_ 21), (0, u "java/lang/String"), (0, .methodref 20 23), (0, .nameAndType 5 24), (0, u "([C)V"), (0, .methodref 8 26), (0, .nameAndType 27 28), (0, u "labelled"), (0, u "(Ljava/lang/String;)Lcom/example/sessn/sessn/session/Weights;"), (0, .class_ 30), (0, u "com/example/sessn/sessn/session/WeightsLabelledPinLaw"), (2, u "law"), (0, u "(IIII)Z")] 5

def k1m0 : Method := { name := "<init>", desc := "()V", sig := { parameters := [], returnType := none }, accessFlags := 1, code := none }
def k1c1 : Code := { maxStack := 4, maxLocals := 19, code := code, exceptionTable := #[], attributes := #[] }
def k1m1 : Method := { name := "law", desc := "(IIII)Z", sig := { parameters := [.int, .int, .int, .int], returnType := some .boolean }, accessFlags := 9, code := some k1c1 }
/-- com/example/sessn/sessn/session/WeightsLabelledPinLaw -/
def k1 : Class := { plain "com/example/sessn/sessn/session/WeightsLabelledPinLaw" (some 0) with
  accessFlags := 49
  interfaces := #[]
  cf := some (fileOf pool1 29 #[] #[⟨1, 5, 6, #[]⟩, ⟨9, 33, 34, #[]⟩] 49 2 #[] #[])
  fields := #[]
  methods := #[k1m0, k1m1]
  instanceTypes := #[]
  staticTypes := #[]
  resolved := Array.replicate 40 none
  statics := none }

def pool2 : Array CpInfo := pool [(1, .class_ 2), (0, u "java/lang/constant/Constable"), (0, .class_ 4), (0, u "java/lang/Object")] 6

/-- java/lang/constant/Constable -/
def k2 : Class := { plain "java/lang/constant/Constable" (some 0) with
  accessFlags := 1537
  interfaces := #[]
  cf := some (fileOf pool2 1 #[] #[] 1537 3 #[] #[])
  fields := #[]
  methods := #[]
  instanceTypes := #[]
  staticTypes := #[]
  resolved := Array.replicate 11 none
  statics := none }

def pool3 : Array CpInfo := pool [(1, .class_ 2), (0, u "java/lang/Comparable"), (0, .class_ 4), (0, u "java/lang/Object")] 7

/-- java/lang/Comparable -/
def k3 : Class := { plain "java/lang/Comparable" (some 0) with
  accessFlags := 1537
  interfaces := #[]
  cf := some (fileOf pool3 1 #[] #[] 1537 3 #[] #[])
  fields := #[]
  methods := #[]
  instanceTypes := #[]
  staticTypes := #[]
  resolved := Array.replicate 12 none
  statics := none }

def pool4 : Array CpInfo := pool [(1, .class_ 2), (0, u "java/io/Serializable"), (0, .class_ 4), (0, u "java/lang/Object")] 2

/-- java/io/Serializable -/
def k4 : Class := { plain "java/io/Serializable" (some 0) with
  accessFlags := 1537
  interfaces := #[]
  cf := some (fileOf pool4 1 #[] #[] 1537 3 #[] #[])
  fields := #[]
  methods := #[]
  instanceTypes := #[]
  staticTypes := #[]
  resolved := Array.replicate 7 none
  statics := none }

def pool5 : Array CpInfo := pool [(2, .class_ 4), (1, u "java/lang/Enum"), (0, u "name"), (0, u "Ljava/lang/String;"), (2, u "ordinal"), (0, u "I"), (1, .class_ 14), (1, u "java/lang/Object"), (4, u "hash"), (86, .class_ 108), (1, u "java/lang/Enum$EnumDesc"), (2, .class_ 112), (0, u "java/lang/constant/Constable"), (0, .class_ 114), (0, u "java/lang/Comparable"), (0, .class_ 116), (0, u "java/io/Serializable")] 87

/-- java/lang/Enum -/
def k5 : Class := { plain "java/lang/Enum" (some 0) with
  accessFlags := 1057
  interfaces := #[2, 3, 4]
  cf := some (fileOf pool5 2 #[.nestMembers #[106]] #[] 1057 12 #[111, 113, 115] #[⟨18, 5, 6, #[]⟩, ⟨18, 9, 10, #[]⟩, ⟨2, 19, 10, #[]⟩])
  fields := #[⟨"name", (.object "java/lang/String"), 18, 0, 0⟩, ⟨"ordinal", .int, 18, 1, 0⟩, ⟨"hash", .int, 2, 2, 0⟩]
  methods := #[]
  instanceTypes := #[(.object "java/lang/String"), .int, .int]
  staticTypes := #[]
  resolved := Array.replicate 204 none
  statics := none }

def pool6 : Array CpInfo := pool [(1, .class_ 2), (0, u "com/example/sessn/sessn/session/Weights"), (2, u "UNIFORM"), (0, u "Lcom/example/sessn/sessn/session/Weights;"), (2, u "PREV_CURRENT"), (2, u "DISTANCE"), (0, .fieldref 1 14), (0, .nameAndType 15 16), (0, u "$VALUES"), (0, u "[Lcom/example/sessn/sessn/session/Weights;"), (0, .methodref 18 19), (0, .class_ 16), (0, .nameAndType 20 21), (0, u "clone"), (0, u "()Ljava/lang/Object;"), (1, .class_ 25), (1, u "java/lang/Enum"), (6, .fieldref 1 33), (0, .nameAndType 34 35), (0, u "label"), (0, u "Ljava/lang/String;"), (0, .methodref 1 37), (0, .nameAndType 38 39), (0, u "values"), (0, u "()[Lcom/example/sessn/sessn/session/Weights;"), (0, .methodref 41 42), (0, .class_ 43), (0, .nameAndType 44 45), (0, u "java/lang/String"), (0, u "equals"), (0, u "(Ljava/lang/Object;)Z"), (17, u "(Ljava/lang/String;)Lcom/example/sessn/sessn/session/Weights;"), (4, u "labelled")] 8

def k6c0 : Code := { maxStack := 1, maxLocals := 0, code := prog_28_method_1_code, exceptionTable := #[], attributes := #[] }
def k6m0 : Method := { name := "values", desc := "()[Lcom/example/sessn/sessn/session/Weights;", sig := { parameters := [], returnType := some (.array (.object "com/example/sessn/sessn/session/Weights")) }, accessFlags := 9, code := some k6c0 }
def k6c1 : Code := { maxStack := 2, maxLocals := 6, code := prog_28_method_5_code, exceptionTable := #[], attributes := #[] }
def k6m1 : Method := { name := "labelled", desc := "(Ljava/lang/String;)Lcom/example/sessn/sessn/session/Weights;", sig := { parameters := [(.object "java/lang/String")], returnType := some (.object "com/example/sessn/sessn/session/Weights") }, accessFlags := 9, code := some k6c1 }
/-- com/example/sessn/sessn/session/Weights -/
def k6 : Class := { plain "com/example/sessn/sessn/session/Weights" (some 5) with
  accessFlags := 16433
  interfaces := #[]
  cf := some (fileOf pool6 1 #[] #[⟨9, 38, 39, #[]⟩, ⟨9, 68, 63, #[]⟩] 16433 23 #[] #[⟨16409, 5, 6, #[]⟩, ⟨16409, 9, 6, #[]⟩, ⟨16409, 12, 6, #[]⟩, ⟨18, 34, 35, #[]⟩, ⟨4122, 15, 16, #[]⟩])
  fields := #[⟨"UNIFORM", (.object "com/example/sessn/sessn/session/Weights"), 16409, 0, 0⟩, ⟨"PREV_CURRENT", (.object "com/example/sessn/sessn/session/Weights"), 16409, 1, 0⟩, ⟨"DISTANCE", (.object "com/example/sessn/sessn/session/Weights"), 16409, 2, 0⟩, ⟨"label", (.object "java/lang/String"), 18, 3, 0⟩, ⟨"$VALUES", (.array (.object "com/example/sessn/sessn/session/Weights")), 4122, 3, 0⟩]
  methods := #[k6m0, k6m1]
  instanceTypes := #[(.object "java/lang/String"), .int, .int, (.object "java/lang/String")]
  staticTypes := #[(.object "com/example/sessn/sessn/session/Weights"), (.object "com/example/sessn/sessn/session/Weights"), (.object "com/example/sessn/sessn/session/Weights"), (.array (.object "com/example/sessn/sessn/session/Weights"))]
  resolved := Array.replicate 77 none
  statics := some 0 }

def pool7 : Array CpInfo := pool [(2, .class_ 4), (1, u "java/lang/CharSequence"), (42, .class_ 48), (0, u "java/lang/CharSequence$1CodePointIterator"), (10, .class_ 60), (0, u "java/lang/CharSequence$1CharIterator"), (5, .class_ 67), (0, u "java/lang/Object")] 63

/-- java/lang/CharSequence -/
def k7 : Class := { plain "java/lang/CharSequence" (some 0) with
  accessFlags := 1537
  interfaces := #[]
  cf := some (fileOf pool7 2 #[.nestMembers #[47, 59]] #[] 1537 66 #[] #[])
  fields := #[]
  methods := #[]
  instanceTypes := #[]
  staticTypes := #[]
  resolved := Array.replicate 131 none
  statics := none }

def pool8 : Array CpInfo := pool [(1, .class_ 2), (0, u "java/lang/constant/ConstantDesc"), (0, .class_ 4), (0, u "java/lang/Object")] 32

/-- java/lang/constant/ConstantDesc -/
def k8 : Class := { plain "java/lang/constant/ConstantDesc" (some 0) with
  accessFlags := 1537
  interfaces := #[]
  cf := some (fileOf pool8 1 #[] #[] 1537 3 #[] #[])
  fields := #[]
  methods := #[]
  instanceTypes := #[]
  staticTypes := #[]
  resolved := Array.replicate 37 none
  statics := none }

def pool9 : Array CpInfo := pool [(1, .methodref 2 3), (0, .class_ 4), (0, .nameAndType 5 6), (0, u "java/lang/Object"), (0, u "<init>"), (0, u "()V"), (2, .fieldref 10 11), (0, .class_ 12), (0, .nameAndType 13 14), (0, u "java/lang/String"), (0, u "value"), (0, u "[B"), (0, .fieldref 10 16), (0, .nameAndType 17 18), (0, u "coder"), (0, u "B"), (2, u "hash"), (0, u "I"), (2, u "hashIsZero"), (0, u "Z"), (0, .methodref 10 28), (0, .nameAndType 5 29), (0, u "([CIILjava/lang/Void;)V"), (8, .fieldref 10 39), (0, .nameAndType 40 26), (0, u "COMPACT_STRINGS"), (1, .class_ 44), (1, u "java/lang/StringUTF16"), (0, u "compress"), (1, .methodref 42 48), (0, .nameAndType 49 50), (0, u "coderFromArrayLen"), (0, u "([BI)B"), (56, .class_ 109), (1, u "java/lang/StringLatin1"), (67, .methodref 42 178), (0, .nameAndType 45 179), (0, u "([CII)[B"), (361, .methodref 107 542), (0, .nameAndType 543 544), (0, u "equals"), (0, u "([B[B)Z"), (28, u "(Ljava/lang/Object;)Z"), (1, .class_ 576), (0, u "java/lang/CharSequence"), (22, u "CASE_INSENSITIVE_ORDER"), (0, u "Ljava/util/Comparator;"), (409, u "([C)V"), (90, u "serialPersistentFields"), (0, u "[Ljava/io/ObjectStreamField;"), (0, .class_ 1104), (0, u "java/lang/String$CaseInsensitiveComparator"), (1, .class_ 1107), (0, u "java/io/Serializable"), (0, .class_ 1109), (0, u "java/lang/Comparable"), (0, .class_ 1111), (0, u "java/lang/constant/Constable"), (0, .class_ 1113), (0, u "java/lang/constant/ConstantDesc"), (2, u "serialVersionUID"), (0, u "J"), (3, u "REPL"), (0, u "C"), (2, u "LATIN1"), (1, u "UTF16")] 323

def k9m0 : Method := { name := "<init>", desc := "()V", sig := { parameters := [], returnType := none }, accessFlags := 1, code := none }
def k9c1 : Code := { maxStack := 5, maxLocals := 2, code := jdk_42_method_3_code, exceptionTable := #[], attributes := #[] }
def k9m1 : Method := { name := "<init>", desc := "([C)V", sig := { parameters := [(.array .char)], returnType := none }, accessFlags := 1, code := some k9c1 }
def k9c2 : Code := { maxStack := 2, maxLocals := 3, code := jdk_42_method_66_code, exceptionTable := #[], attributes := #[] }
def k9m2 : Method := { name := "equals", desc := "(Ljava/lang/Object;)Z", sig := { parameters := [(.object "java/lang/Object")], returnType := some .boolean }, accessFlags := 1, code := some k9c2 }
def k9c3 : Code := { maxStack := 4, maxLocals := 6, code := jdk_42_method_149_code, exceptionTable := #[], attributes := #[] }
def k9m3 : Method := { name := "<init>", desc := "([CIILjava/lang/Void;)V", sig := { parameters := [(.array .char), .int, .int, (.object "java/lang/Void")], returnType := none }, accessFlags := 2, code := some k9c3 }
/-- java/lang/String -/
def k9 : Class := { plain "java/lang/String" (some 0) with
  accessFlags := 49
  interfaces := #[4, 3, 7, 2, 8]
  cf := some (fileOf pool9 10 #[.nestMembers #[1103]] #[⟨1, 5, 6, #[]⟩, ⟨1, 5, 1010, #[]⟩, ⟨1, 543, 573, #[]⟩, ⟨2, 5, 29, #[]⟩] 49 2 #[1106, 1108, 575, 1110, 1112] #[⟨18, 13, 14, #[]⟩, ⟨18, 17, 18, #[]⟩, ⟨2, 21, 22, #[]⟩, ⟨2, 25, 26, #[]⟩, ⟨26, 1116, 1117, #[]⟩, ⟨24, 40, 26, #[]⟩, ⟨26, 1101, 1102, #[]⟩, ⟨26, 1121, 1122, #[]⟩, ⟨25, 599, 600, #[]⟩, ⟨24, 1125, 18, #[]⟩, ⟨24, 1127, 18, #[]⟩])
  fields := #[⟨"value", (.array .byte), 18, 0, 0⟩, ⟨"coder", .byte, 18, 1, 0⟩, ⟨"hash", .int, 2, 2, 0⟩, ⟨"hashIsZero", .boolean, 2, 3, 0⟩, ⟨"serialVersionUID", .long, 26, 0, 0⟩, ⟨"COMPACT_STRINGS", .boolean, 24, 1, 0⟩, ⟨"serialPersistentFields", (.array (.object "java/io/ObjectStreamField")), 26, 2, 0⟩, ⟨"REPL", .char, 26, 3, 0⟩, ⟨"CASE_INSENSITIVE_ORDER", (.object "java/util/Comparator"), 25, 4, 0⟩, ⟨"LATIN1", .byte, 24, 5, 0⟩, ⟨"UTF16", .byte, 24, 6, 0⟩]
  methods := #[k9m0, k9m1, k9m2, k9m3]
  instanceTypes := #[(.array .byte), .byte, .int, .boolean]
  staticTypes := #[.long, .boolean, (.array (.object "java/io/ObjectStreamField")), .char, (.object "java/util/Comparator"), .byte, .byte]
  resolved := Array.replicate 1451 none
  statics := some 1 }

def pool10 : Array CpInfo := pool [(6, .class_ 8), (1, u "java/lang/Object"), (0, u "<init>"), (0, u "()V"), (1, .class_ 14), (1, u "java/lang/StringUTF16"), (31, u "$assertionsDisabled"), (0, u "Z"), (13, u "HI_BYTE_SHIFT"), (0, u "I"), (2, u "LO_BYTE_SHIFT"), (49, .methodref 12 116), (0, .nameAndType 117 118), (0, u "compress"), (0, u "([CI[BII)I"), (3, u "([CII)[B"), (138, u "coderFromArrayLen"), (0, u "([BI)B"), (106, .class_ 371), (1, u "java/lang/StringUTF16$LinesSpliterator"), (58, u "MAX_LENGTH"), (196, .class_ 628), (0, u "java/lang/StringUTF16$CodePointsSpliterator"), (0, .class_ 630), (0, u "java/lang/StringUTF16$CharsSpliterator")] 4

def k10m0 : Method := { name := "<init>", desc := "()V", sig := { parameters := [], returnType := none }, accessFlags := 0, code := none }
def k10c1 : Code := { maxStack := 2, maxLocals := 2, code := jdk_52_method_15_code, exceptionTable := #[], attributes := #[] }
def k10m1 : Method := { name := "coderFromArrayLen", desc := "([BI)B", sig := { parameters := [(.array .byte), .int], returnType := some .byte }, accessFlags := 8, code := some k10c1 }
def k10c2 : Code := { maxStack := 5, maxLocals := 6, code := jdk_52_method_16_code, exceptionTable := #[], attributes := #[] }
def k10m2 : Method := { name := "compress", desc := "([CII)[B", sig := { parameters := [(.array .char), .int, .int], returnType := some (.array .byte) }, accessFlags := 9, code := some k10c2 }
def k10c3 : Code := { maxStack := 3, maxLocals := 7, code := jdk_52_method_21_code, exceptionTable := #[], attributes := #[] }
def k10m3 : Method := { name := "compress", desc := "([CI[BII)I", sig := { parameters := [(.array .char), .int, (.array .byte), .int, .int], returnType := some .int }, accessFlags := 9, code := some k10c3 }
/-- java/lang/StringUTF16 -/
def k10 : Class := { plain "java/lang/StringUTF16" (some 0) with
  accessFlags := 48
  interfaces := #[]
  cf := some (fileOf pool10 12 #[.nestMembers #[627, 629, 369]] #[⟨0, 9, 10, #[]⟩, ⟨8, 261, 262, #[]⟩, ⟨9, 117, 122, #[]⟩, ⟨9, 117, 118, #[]⟩] 48 6 #[] #[⟨26, 61, 62, #[]⟩, ⟨26, 65, 62, #[]⟩, ⟨24, 430, 62, #[]⟩, ⟨4120, 46, 47, #[]⟩])
  fields := #[⟨"HI_BYTE_SHIFT", .int, 26, 0, 0⟩, ⟨"LO_BYTE_SHIFT", .int, 26, 1, 0⟩, ⟨"MAX_LENGTH", .int, 24, 2, 0⟩, ⟨"$assertionsDisabled", .boolean, 4120, 3, 0⟩]
  methods := #[k10m0, k10m1, k10m2, k10m3]
  instanceTypes := #[]
  staticTypes := #[.int, .int, .int, .boolean]
  resolved := Array.replicate 635 none
  statics := none }

def pool11 : Array CpInfo := pool [(1, .class_ 2), (0, u "java/lang/Cloneable"), (0, .class_ 4), (0, u "java/lang/Object")] 2

/-- java/lang/Cloneable -/
def k11 : Class := { plain "java/lang/Cloneable" (some 0) with
  accessFlags := 1537
  interfaces := #[]
  cf := some (fileOf pool11 1 #[] #[] 1537 3 #[] #[])
  fields := #[]
  methods := #[]
  instanceTypes := #[]
  staticTypes := #[]
  resolved := Array.replicate 7 none
  statics := none }

def pool12 : Array CpInfo := pool [(4, .class_ 6), (1, u "java/lang/Object"), (0, u "<init>"), (0, u "()V"), (5, .class_ 16), (1, u "java/lang/StringLatin1"), (104, u "$assertionsDisabled"), (0, u "Z"), (98, .class_ 223), (1, u "java/lang/StringLatin1$LinesSpliterator"), (57, u "equals"), (0, u "([B[B)Z"), (107, .class_ 391), (0, u "java/lang/StringLatin1$CharsSpliterator")] 3

def k12m0 : Method := { name := "<init>", desc := "()V", sig := { parameters := [], returnType := none }, accessFlags := 0, code := none }
def k12c1 : Code := { maxStack := 3, maxLocals := 3, code := jdk_43_method_13_code, exceptionTable := #[], attributes := #[] }
def k12m1 : Method := { name := "equals", desc := "([B[B)Z", sig := { parameters := [(.array .byte), (.array .byte)], returnType := some .boolean }, accessFlags := 9, code := some k12c1 }
/-- java/lang/StringLatin1 -/
def k12 : Class := { plain "java/lang/StringLatin1" (some 0) with
  accessFlags := 48
  interfaces := #[]
  cf := some (fileOf pool12 14 #[.nestMembers #[390, 221]] #[⟨0, 7, 8, #[]⟩, ⟨9, 281, 282, #[]⟩] 48 4 #[] #[⟨4120, 121, 122, #[]⟩])
  fields := #[⟨"$assertionsDisabled", .boolean, 4120, 0, 0⟩]
  methods := #[k12m0, k12m1]
  instanceTypes := #[]
  staticTypes := #[.boolean]
  resolved := Array.replicate 395 none
  statics := none }

def pool13 : Array CpInfo := pool [(2, .class_ 4), (1, u "java/lang/Object"), (0, u "<init>"), (0, u "()V"), (17, .class_ 26), (1, u "jdk/internal/util/Preconditions"), (28, .class_ 56), (0, u "jdk/internal/util/Preconditions$4"), (57, .class_ 115), (0, u "jdk/internal/util/Preconditions$1"), (7, u "SIOOBE_FORMATTER"), (0, u "Ljava/util/function/BiFunction;"), (0, .class_ 126), (0, u "jdk/internal/util/Preconditions$2"), (3, u "AIOOBE_FORMATTER"), (0, .class_ 132), (0, u "jdk/internal/util/Preconditions$3"), (3, u "IOOBE_FORMATTER")] 57

def k13m0 : Method := { name := "<init>", desc := "()V", sig := { parameters := [], returnType := none }, accessFlags := 1, code := none }
/-- jdk/internal/util/Preconditions -/
def k13 : Class := { plain "jdk/internal/util/Preconditions" (some 0) with
  accessFlags := 33
  interfaces := #[]
  cf := some (fileOf pool13 24 #[.nestMembers #[55, 131, 125, 114]] #[⟨1, 5, 6, #[]⟩] 33 2 #[] #[⟨25, 123, 124, #[]⟩, ⟨25, 130, 124, #[]⟩, ⟨25, 136, 124, #[]⟩])
  fields := #[⟨"SIOOBE_FORMATTER", (.object "java/util/function/BiFunction"), 25, 0, 0⟩, ⟨"AIOOBE_FORMATTER", (.object "java/util/function/BiFunction"), 25, 1, 0⟩, ⟨"IOOBE_FORMATTER", (.object "java/util/function/BiFunction"), 25, 2, 0⟩]
  methods := #[k13m0]
  instanceTypes := #[]
  staticTypes := #[(.object "java/util/function/BiFunction"), (.object "java/util/function/BiFunction"), (.object "java/util/function/BiFunction")]
  resolved := Array.replicate 194 none
  statics := some 2 }

def pool14 : Array CpInfo := pool [(9, u "<init>"), (6, .class_ 18), (1, u "java/lang/Object"), (0, u "()V"), (1, .class_ 23), (1, u "jdk/internal/util/ArraysSupport"), (0, u "LOG2_ARRAY_LONG_INDEX_SCALE"), (0, u "I"), (2, u "U"), (0, u "Ljdk/internal/misc/Unsafe;"), (8, u "BIG_ENDIAN"), (0, u "Z"), (8, u "LOG2_BYTE_BIT_SIZE"), (4, u "LOG2_ARRAY_INT_INDEX_SCALE"), (54, u "JLA"), (0, u "Ljdk/internal/access/JavaLangAccess;"), (11, u "LOG2_ARRAY_BOOLEAN_INDEX_SCALE"), (9, u "LOG2_ARRAY_BYTE_INDEX_SCALE"), (5, u "LOG2_ARRAY_CHAR_INDEX_SCALE"), (5, u "LOG2_ARRAY_SHORT_INDEX_SCALE"), (18, u "LOG2_ARRAY_FLOAT_INDEX_SCALE"), (24, u "LOG2_ARRAY_DOUBLE_INDEX_SCALE"), (89, u "T_BOOLEAN"), (2, u "T_CHAR"), (1, u "T_FLOAT"), (1, u "T_DOUBLE"), (1, u "T_BYTE"), (1, u "T_SHORT"), (1, u "T_INT"), (1, u "T_LONG"), (1, u "SOFT_MAX_ARRAY_LENGTH")] 83

def k14m0 : Method := { name := "<init>", desc := "()V", sig := { parameters := [], returnType := none }, accessFlags := 2, code := none }
/-- jdk/internal/util/ArraysSupport -/
def k14 : Class := { plain "jdk/internal/util/ArraysSupport" (some 0) with
  accessFlags := 33
  interfaces := #[]
  cf := some (fileOf pool14 21 #[] #[⟨2, 9, 19, #[]⟩] 33 16 #[] #[⟨24, 28, 29, #[]⟩, ⟨26, 38, 39, #[]⟩, ⟨25, 121, 25, #[]⟩, ⟨25, 131, 25, #[]⟩, ⟨25, 137, 25, #[]⟩, ⟨25, 143, 25, #[]⟩, ⟨25, 53, 25, #[]⟩, ⟨25, 24, 25, #[]⟩, ⟨25, 162, 25, #[]⟩, ⟨25, 187, 25, #[]⟩, ⟨26, 48, 25, #[]⟩, ⟨25, 277, 25, #[]⟩, ⟨25, 280, 25, #[]⟩, ⟨25, 282, 25, #[]⟩, ⟨25, 284, 25, #[]⟩, ⟨25, 286, 25, #[]⟩, ⟨25, 288, 25, #[]⟩, ⟨25, 290, 25, #[]⟩, ⟨25, 292, 25, #[]⟩, ⟨26, 108, 109, #[]⟩, ⟨25, 294, 25, #[]⟩])
  fields := #[⟨"U", (.object "jdk/internal/misc/Unsafe"), 24, 0, 0⟩, ⟨"BIG_ENDIAN", .boolean, 26, 1, 0⟩, ⟨"LOG2_ARRAY_BOOLEAN_INDEX_SCALE", .int, 25, 2, 0⟩, ⟨"LOG2_ARRAY_BYTE_INDEX_SCALE", .int, 25, 3, 0⟩, ⟨"LOG2_ARRAY_CHAR_INDEX_SCALE", .int, 25, 4, 0⟩, ⟨"LOG2_ARRAY_SHORT_INDEX_SCALE", .int, 25, 5, 0⟩, ⟨"LOG2_ARRAY_INT_INDEX_SCALE", .int, 25, 6, 0⟩, ⟨"LOG2_ARRAY_LONG_INDEX_SCALE", .int, 25, 7, 0⟩, ⟨"LOG2_ARRAY_FLOAT_INDEX_SCALE", .int, 25, 8, 0⟩, ⟨"LOG2_ARRAY_DOUBLE_INDEX_SCALE", .int, 25, 9, 0⟩, ⟨"LOG2_BYTE_BIT_SIZE", .int, 26, 10, 0⟩, ⟨"T_BOOLEAN", .int, 25, 11, 0⟩, ⟨"T_CHAR", .int, 25, 12, 0⟩, ⟨"T_FLOAT", .int, 25, 13, 0⟩, ⟨"T_DOUBLE", .int, 25, 14, 0⟩, ⟨"T_BYTE", .int, 25, 15, 0⟩, ⟨"T_SHORT", .int, 25, 16, 0⟩, ⟨"T_INT", .int, 25, 17, 0⟩, ⟨"T_LONG", .int, 25, 18, 0⟩, ⟨"JLA", (.object "jdk/internal/access/JavaLangAccess"), 26, 19, 0⟩, ⟨"SOFT_MAX_ARRAY_LENGTH", .int, 25, 20, 0⟩]
  methods := #[k14m0]
  instanceTypes := #[]
  staticTypes := #[(.object "jdk/internal/misc/Unsafe"), .boolean, .int, .int, .int, .int, .int, .int, .int, .int, .int, .int, .int, .int, .int, .int, .int, .int, .int, (.object "jdk/internal/access/JavaLangAccess"), .int]
  resolved := Array.replicate 378 none
  statics := none }

/-- the primitive byte -/
def k15 : Class := { plain "byte" none with kind := .primitive 'B', accessFlags := 0x411 }
/-- [B -/
def k16 : Class := { plain "[B" (some 0) with kind := .array 15 .byte, interfaces := #[11, 4], accessFlags := 1041 }

/-- the primitive char -/
def k17 : Class := { plain "char" none with kind := .primitive 'C', accessFlags := 0x411 }
/-- [C -/
def k18 : Class := { plain "[C" (some 0) with kind := .array 17 .char, interfaces := #[11, 4], accessFlags := 1041 }

/-- the primitive int -/
def k19 : Class := { plain "int" none with kind := .primitive 'I', accessFlags := 0x411 }
/-- [I -/
def k20 : Class := { plain "[I" (some 0) with kind := .array 19 .int, interfaces := #[11, 4], accessFlags := 1041 }

/-- [Lcom/example/sessn/sessn/session/Weights; -/
def k21 : Class := { plain "[Lcom/example/sessn/sessn/session/Weights;" (some 0) with kind := .array 6 (.object "com/example/sessn/sessn/session/Weights"), interfaces := #[11, 4], accessFlags := 1041 }

def heap : Heap := #[{ cls := 6, slots := #[.ref 10, .ref 11, .ref 12, .ref 3], vm := .statics 6 },
  { cls := 9, slots := #[.long 0, .int 1, .null, .int 0, .null, .int 0, .int 0], vm := .statics 9 },
  { cls := 13, slots := #[.null, .null, .null], vm := .statics 13 },
  { cls := 21, slots := #[.ref 10, .ref 11, .ref 12], vm := .none },
  { cls := 16, slots := #[.int 117, .int 110, .int 105, .int 102, .int 111, .int 114, .int 109], vm := .none },
  { cls := 16, slots := #[.int 112, .int 114, .int 101, .int 118, .int 45, .int 99, .int 117, .int 114, .int 114, .int 101, .int 110, .int 116], vm := .none },
  { cls := 16, slots := #[.int 100, .int 105, .int 115, .int 116, .int 97, .int 110, .int 99, .int 101], vm := .none },
  { cls := 9, slots := #[.ref 4, .int 0, .int 0, .int 0], vm := .none },
  { cls := 9, slots := #[.ref 5, .int 0, .int 0, .int 0], vm := .none },
  { cls := 9, slots := #[.ref 6, .int 0, .int 0, .int 0], vm := .none },
  { cls := 6, slots := #[.null, .int 0, .int 0, .ref 7], vm := .none },
  { cls := 6, slots := #[.null, .int 1, .int 0, .ref 8], vm := .none },
  { cls := 6, slots := #[.null, .int 2, .int 0, .ref 9], vm := .none }]
def classes : Array Class := #[k0, k1, k2, k3, k4, k5, k6, k7, k8, k9, k10, k11, k12, k13, k14, k15, k16, k17, k18, k19, k20, k21]
def interned : List (Array UInt16 × Addr) := []
def slotsUsed : Nat := 68
def theMethod : MethodId := ⟨1, 1⟩
def args0 : Array Value := #[.int 5, .int 6, .int 7, .int 8]
def aboutOver (below : List Frame) : State where
  vm := { classes := classes, interned := interned.toArray }
  heap := heap
  slotsUsed := slotsUsed
  threads := #[{ frames := .invoking theMethod args0 :: below }]
def below0 : List Frame := [.native { method := ⟨0, 0⟩, args := #[] }]
def about1 : State := aboutOver below0
def p0 : Program := .bare "" "" ""
def e0 : Env := launch0.env 0 0 0
theorem w_frames : about1.frames = Frame.invoking theMethod args0 :: below0 := rfl
set_option maxRecDepth 65536 in
theorem w_args : argsFit about1.vm theMethod args0 = true := by decide +kernel
set_option maxRecDepth 65536 in
theorem w_heap : heapFits about1 = true := by decide +kernel
set_option maxRecDepth 65536 in
theorem w_runnable : about1.curStatus? = some .runnable := by decide +kernel
set_option maxRecDepth 65536 in
theorem w_alone : about1.alone = true := by decide +kernel
set_option maxRecDepth 65536 in
theorem w_named : about1.methodNamed? x = some theMethod := by decide +kernel
set_option maxRecDepth 65536 in
theorem w_hears : about1.hears theMethod below0 = true := by decide +kernel
set_option maxRecDepth 65536 in
theorem w_ripe : about1.ripe theMethod args0 below0 = true := by decide +kernel
theorem w_running : about1.status = .running := rfl
set_option maxRecDepth 65536 in
theorem w_room : about1.hasRoom e0.platform room_1 = true :=
  launch0.hasRoom_least _ room_1 (by decide +kernel) (by decide +kernel) (by decide +kernel) (by decide +kernel) (by decide +kernel) (by decide +kernel)
theorem allAtoms_all (ts : List Jvm.Cond) (a : Array Jvm.Value) (st : Jvm.State) : (allAtoms ts).before a st = ts.all (fun c => c.before a st) := by
  induction ts with
  | nil => rfl
  | cons c t ih =>
    show (Jvm.Cond.and c (allAtoms t)).before a st = _
    rw [Jvm.Cond.before_and, ih, List.all_cons]
def words1 : List Jvm.Cond := Jvm.Cond.code x code maxLocals ret :: tables_1
/-- a 'code' word, met by the world's own term for the bytes: nothing is compared byte by byte -/
theorem code_word {y : MethodName} {bytes : ByteArray} {mx : Nat} {rt : Option FieldType} {a : Array Value} {s : State} {m : MethodId} {meth : Method} {c : Code} (h1 : s.methodNamed? y = some m) (h2 : s.vm.method? m = some meth) (h3 : meth.code = some c) (h4 : c.code = bytes)
    (h5 : (c.maxLocals == mx && c.exceptionTable.isEmpty && decide (c.maxStack ≤ mostOperands) && decide (meth.sig.returnType = rt) && !meth.locks && decide (parseMethodDescriptor y.desc = some meth.sig)) = true) : (Jvm.Cond.code y bytes mx rt).before a s = true := by
  simp only [Bool.and_eq_true, beq_iff_eq, Bool.not_eq_true', decide_eq_true_eq] at h5
  obtain ⟨⟨⟨⟨⟨g1, g2⟩, g3⟩, g4⟩, g5⟩, g6⟩ := h5
  simp [Cond.before, Cond.holds, Cond.value, h1, h2, h3, h4, g1, g2, g3, g4, g5, g6]
def isCode : Jvm.Cond → Bool
  | .code _ _ _ _ => true
  | _ => false
theorem all_split {L : List Jvm.Cond} {P : Jvm.Cond → Bool} (h1 : L.all (fun c => isCode c || P c) = true) (h2 : ∀ c ∈ L.filter isCode, P c = true) : L.all P = true := by
  refine List.all_eq_true.mpr fun c hc => ?_
  have h := List.all_eq_true.mp h1 c hc
  rcases Bool.eq_false_or_eq_true (isCode c) with hi | hi
  · exact h2 c (List.mem_filter.mpr ⟨hc, hi⟩)
  · simpa [hi] using h
set_option maxRecDepth 65536 in
theorem w_c0 : (Jvm.Cond.code x code maxLocals ret).before args0 about1 = true := code_word (m := ⟨1, 1⟩) (meth := k1m1) (c := k1c1) (by decide +kernel) rfl rfl rfl (by decide +kernel)
set_option maxRecDepth 65536 in
theorem w_c1 : (Jvm.Cond.code ⟨"java/lang/String", "<init>", "([C)V"⟩ jdk_42_method_3_code (2 : Nat) (Option.none : Option Jvm.ClassFile.FieldType)).before args0 about1 = true := code_word (m := ⟨9, 1⟩) (meth := k9m1) (c := k9c1) (by decide +kernel) rfl rfl rfl (by decide +kernel)
set_option maxRecDepth 65536 in
theorem w_c2 : (Jvm.Cond.code ⟨"java/lang/String", "<init>", "([CIILjava/lang/Void;)V"⟩ jdk_42_method_149_code (6 : Nat) (Option.none : Option Jvm.ClassFile.FieldType)).before args0 about1 = true := code_word (m := ⟨9, 3⟩) (meth := k9m3) (c := k9c3) (by decide +kernel) rfl rfl rfl (by decide +kernel)
set_option maxRecDepth 65536 in
theorem w_c3 : (Jvm.Cond.code ⟨"java/lang/Object", "<init>", "()V"⟩ object_method_1_code (1 : Nat) (Option.none : Option Jvm.ClassFile.FieldType)).before args0 about1 = true := code_word (m := ⟨0, 0⟩) (meth := k0m0) (c := k0c0) (by decide +kernel) rfl rfl rfl (by decide +kernel)
set_option maxRecDepth 65536 in
theorem w_c4 : (Jvm.Cond.code ⟨"java/lang/StringUTF16", "compress", "([CII)[B"⟩ jdk_52_method_16_code (6 : Nat) (Option.some (Jvm.ClassFile.FieldType.array Jvm.ClassFile.FieldType.byte))).before args0 about1 = true := code_word (m := ⟨10, 2⟩) (meth := k10m2) (c := k10c2) (by decide +kernel) rfl rfl rfl (by decide +kernel)
set_option maxRecDepth 65536 in
theorem w_c5 : (Jvm.Cond.code ⟨"java/lang/StringUTF16", "compress", "([CI[BII)I"⟩ jdk_52_method_21_code (7 : Nat) (Option.some Jvm.ClassFile.FieldType.int)).before args0 about1 = true := code_word (m := ⟨10, 3⟩) (meth := k10m3) (c := k10c3) (by decide +kernel) rfl rfl rfl (by decide +kernel)
set_option maxRecDepth 65536 in
theorem w_c6 : (Jvm.Cond.code ⟨"java/lang/StringUTF16", "coderFromArrayLen", "([BI)B"⟩ jdk_52_method_15_code (2 : Nat) (Option.some Jvm.ClassFile.FieldType.byte)).before args0 about1 = true := code_word (m := ⟨10, 1⟩) (meth := k10m1) (c := k10c1) (by decide +kernel) rfl rfl rfl (by decide +kernel)
set_option maxRecDepth 65536 in
theorem w_c7 : (Jvm.Cond.code ⟨"com/example/sessn/sessn/session/Weights", "labelled", "(Ljava/lang/String;)Lcom/example/sessn/sessn/session/Weights;"⟩ prog_28_method_5_code (6 : Nat) (Option.some (Jvm.ClassFile.FieldType.object "com/example/sessn/sessn/session/Weights"))).before args0 about1 = true := code_word (m := ⟨6, 1⟩) (meth := k6m1) (c := k6c1) (by decide +kernel) rfl rfl rfl (by decide +kernel)
set_option maxRecDepth 65536 in
theorem w_c8 : (Jvm.Cond.code ⟨"com/example/sessn/sessn/session/Weights", "values", "()[Lcom/example/sessn/sessn/session/Weights;"⟩ prog_28_method_1_code (0 : Nat) (Option.some (Jvm.ClassFile.FieldType.array (Jvm.ClassFile.FieldType.object "com/example/sessn/sessn/session/Weights")))).before args0 about1 = true := code_word (m := ⟨6, 0⟩) (meth := k6m0) (c := k6c0) (by decide +kernel) rfl rfl rfl (by decide +kernel)
set_option maxRecDepth 65536 in
theorem w_c9 : (Jvm.Cond.code ⟨"java/lang/String", "equals", "(Ljava/lang/Object;)Z"⟩ jdk_42_method_66_code (3 : Nat) (Option.some Jvm.ClassFile.FieldType.boolean)).before args0 about1 = true := code_word (m := ⟨9, 2⟩) (meth := k9m2) (c := k9c2) (by decide +kernel) rfl rfl rfl (by decide +kernel)
set_option maxRecDepth 65536 in
theorem w_c10 : (Jvm.Cond.code ⟨"java/lang/StringLatin1", "equals", "([B[B)Z"⟩ jdk_43_method_13_code (3 : Nat) (Option.some Jvm.ClassFile.FieldType.boolean)).before args0 about1 = true := code_word (m := ⟨12, 1⟩) (meth := k12m1) (c := k12c1) (by decide +kernel) rfl rfl rfl (by decide +kernel)
def codes1 : List Jvm.Cond := [Jvm.Cond.code x code maxLocals ret, Jvm.Cond.code ⟨"java/lang/String", "<init>", "([C)V"⟩ jdk_42_method_3_code (2 : Nat) (Option.none : Option Jvm.ClassFile.FieldType), Jvm.Cond.code ⟨"java/lang/String", "<init>", "([CIILjava/lang/Void;)V"⟩ jdk_42_method_149_code (6 : Nat) (Option.none : Option Jvm.ClassFile.FieldType), Jvm.Cond.code ⟨"java/lang/Object", "<init>", "()V"⟩ object_method_1_code (1 : Nat) (Option.none : Option Jvm.ClassFile.FieldType), Jvm.Cond.code ⟨"java/lang/StringUTF16", "compress", "([CII)[B"⟩ jdk_52_method_16_code (6 : Nat) (Option.some (Jvm.ClassFile.FieldType.array Jvm.ClassFile.FieldType.byte)), Jvm.Cond.code ⟨"java/lang/StringUTF16", "compress", "([CI[BII)I"⟩ jdk_52_method_21_code (7 : Nat) (Option.some Jvm.ClassFile.FieldType.int), Jvm.Cond.code ⟨"java/lang/StringUTF16", "coderFromArrayLen", "([BI)B"⟩ jdk_52_method_15_code (2 : Nat) (Option.some Jvm.ClassFile.FieldType.byte), Jvm.Cond.code ⟨"com/example/sessn/sessn/session/Weights", "labelled", "(Ljava/lang/String;)Lcom/example/sessn/sessn/session/Weights;"⟩ prog_28_method_5_code (6 : Nat) (Option.some (Jvm.ClassFile.FieldType.object "com/example/sessn/sessn/session/Weights")), Jvm.Cond.code ⟨"com/example/sessn/sessn/session/Weights", "values", "()[Lcom/example/sessn/sessn/session/Weights;"⟩ prog_28_method_1_code (0 : Nat) (Option.some (Jvm.ClassFile.FieldType.array (Jvm.ClassFile.FieldType.object "com/example/sessn/sessn/session/Weights"))), Jvm.Cond.code ⟨"java/lang/String", "equals", "(Ljava/lang/Object;)Z"⟩ jdk_42_method_66_code (3 : Nat) (Option.some Jvm.ClassFile.FieldType.boolean), Jvm.Cond.code ⟨"java/lang/StringLatin1", "equals", "([B[B)Z"⟩ jdk_43_method_13_code (3 : Nat) (Option.some Jvm.ClassFile.FieldType.boolean)]
set_option maxRecDepth 65536 in
theorem codes_eq : words1.filter isCode = codes1 := rfl
theorem w_codes : ∀ c ∈ words1.filter isCode, c.before args0 about1 = true := by
  rw [codes_eq]
  intro c hc
  simp only [codes1, List.mem_cons, List.not_mem_nil, or_false] at hc
  rcases hc with rfl | rfl | rfl | rfl | rfl | rfl | rfl | rfl | rfl | rfl | rfl
  · exact w_c0
  · exact w_c1
  · exact w_c2
  · exact w_c3
  · exact w_c4
  · exact w_c5
  · exact w_c6
  · exact w_c7
  · exact w_c8
  · exact w_c9
  · exact w_c10
set_option maxRecDepth 65536 in
theorem w_t1 : (words1.take 24).all (fun c => isCode c || c.before args0 about1) = true := by decide +kernel
set_option maxRecDepth 65536 in
theorem w_t2 : ((words1.drop 24).take 24).all (fun c => isCode c || c.before args0 about1) = true := by decide +kernel
set_option maxRecDepth 65536 in
theorem w_t3 : ((words1.drop 24).drop 24).all (fun c => isCode c || c.before args0 about1) = true := by decide +kernel
theorem w_tables : (allAtoms (Jvm.Cond.code x code maxLocals ret :: tables_1)).before args0 about1 = true := by
  rw [allAtoms_all]
  show words1.all (fun c => c.before args0 about1) = true
  refine all_split ?_ w_codes
  rw [← List.take_append_drop 24 words1, List.all_append, w_t1, ← List.take_append_drop 24 (words1.drop 24), List.all_append, w_t2, w_t3]
  rfl
set_option maxRecDepth 65536 in
theorem w_rest : rest_1_c.before args0 about1 = true := by decide +kernel
set_option maxRecDepth 65536 in
theorem w_case : (Jvm.Cond.and given_1 narrow_1).before args0 about1 = true := by decide +kernel
theorem w_applies : (headSpec (Jvm.Cond.code x code maxLocals ret :: tables_1) room_1).applies x e0.platform about1 = true :=
  (Spec.applies_iff w_frames).mpr ⟨w_running, w_runnable, w_alone, w_named, w_hears, w_ripe, w_room, w_tables⟩
theorem atStart : AtStart classFile x code maxLocals ret World_1 tables_1 room_1 Calls_1 rest_1 Pre_1 launch0 p0 e0 about1 theMethod args0 below0 :=
  ⟨lists_1, trivial, launch0.admits_env _ _ _, launch0.least_env, fairChoices_fair.cas, fairChoices_fair.clock, w_frames, w_args, w_heap, w_applies, trivial, w_rest, w_case⟩
end start1
theorem witness_1 : WitnessClaimed_1 := ⟨start1.p0, start1.e0, start1.about1, start1.theMethod, start1.args0, start1.below0, start1.atStart⟩
end Jvm.Pilot.@@N@@
