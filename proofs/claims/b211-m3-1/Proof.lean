import JvmDerived
import JvmDerived.Pilot.@@N@@Statement
import JvmDerived.Pilot.@@N@@Code
set_option linter.unusedVariables false
set_option linter.unusedSimpArgs false
namespace Jvm.Pilot.@@N@@
open Jvm Jvm.ClassFile Sem Op Lib Jvm.Free Jvm.Stand Jvm.LawKit Jvm.RoadKit Bundle Jvm.Pilot.@@N@@.Jvm.D
section OwnPre
def Gl (tb : Tables) (e : Env) (below : List Frame) (P : State → Outcome → Prop) (T : State) (m : MethodId) (pc : Nat) (L : Array Slot) (S : List Value) : Prop := ∃ s₂ o, Steps tb e below (T.setTop (mkF m pc L S)) s₂ ∧ P s₂ o
def Wk (p : Program) (l : Launch) (e : Env) (R : Room) (s : State) (m : MethodId) (args : Array Value) (below : List Frame) (meth : Method) (c : Code) (own : String) (Z : State) (hb : Heap) (ws : List Addr) (I : Heap → Prop) (T : State) (h : Heap) (locs : List Loc) (cells slots : Nat) : Prop :=
  Stand p l e R s m args below meth c T locs cells slots ∧ p.tables.exec = Jvm.exec ∧ T.heap = h ∧ Z.Warmed39 s.vm ∧ s.vm.findClass own = some m.cls ∧ Old Z Z.heap.size h ∧ Fr Z.heap.size locs ∧ Keep hb h ws ∧ I h
variable {p : Program} {l : Launch} {e : Env} {R : Room} {s : State} {m : MethodId} {args : Array Value} {below : List Frame} {meth : Method} {c : Code} {T : State} {locs : List Loc} {cells slots cells' slots' : Nat} {Z : State} {a0 : Array Value} {h hb : Heap} {ws : List Addr} {own : String} {I : Heap → Prop} {P : State → Outcome → Prop} {pc pc' : Nat} {L L' : Array Slot} {S : List Value}
theorem Gl.st {tb : Tables} {T T' : State} {S' : List Value} (k : ∀ target, Steps tb e below (T'.setTop (mkF m pc' L' S')) target → Steps tb e below (T.setTop (mkF m pc L S)) target) (G : Gl tb e below P T' m pc' L' S') : Gl tb e below P T m pc L S := by
  obtain ⟨s2, o, h1, h2⟩ := G
  exact ⟨s2, o, k _ h1, h2⟩
theorem Gl.tr {tb : Tables} {T T' : State} {S' : List Value} (k : Steps tb e below (T.setTop (mkF m pc L S)) (T'.setTop (mkF m pc' L' S'))) (G : Gl tb e below P T' m pc' L' S') : Gl tb e below P T m pc L S := by
  obtain ⟨s2, o, h1, h2⟩ := G
  exact ⟨s2, o, k.trans h1, h2⟩
theorem o_merge {tb : Tables} {α : Type} (C : α → Prop) (q : Nat) (FL : α → Array Slot) (FS : α → List Value) (A : (∀ v, C v → Gl tb e below P T m q (FL v) (FS v)) → Gl tb e below P T m pc L S) (B : ∀ v, C v → Gl tb e below P T m q (FL v) (FS v)) : Gl tb e below P T m pc L S := A B
theorem Wk.ox (W : Wk p l e R s m args below meth c own Z hb ws I T h locs cells slots) : Ext Z.heap h := W.2.2.2.2.2.1.2
theorem Wk.old (W : Wk p l e R s m args below meth c own Z hb ws I T h locs cells slots) : Old Z Z.heap.size h := W.2.2.2.2.2.1
theorem Wk.keep (W : Wk p l e R s m args below meth c own Z hb ws I T h locs cells slots) : Keep hb h ws := W.2.2.2.2.2.2.2.1
theorem Wk.inv (W : Wk p l e R s m args below meth c own Z hb ws I T h locs cells slots) : I h := W.2.2.2.2.2.2.2.2
theorem Wk.zs (W : Wk p l e R s m args below meth c own Z hb ws I T h locs cells slots) : Z.heap.size ≤ h.size := W.ox.1
theorem Wk.al (W : Wk p l e R s m args below meth c own Z hb ws I T h locs cells slots) : Z.vm.Alike s.vm := W.2.2.2.1.alike
theorem own_ne {x b n : Nat} (h1 : x < n) (h2 : n ≤ b) : x ≠ b := Nat.ne_of_lt (Nat.lt_of_lt_of_le h1 h2)
theorem own_ne' {x b n : Nat} (h1 : x < n) (h2 : n ≤ b) : b ≠ x := Ne.symm (own_ne h1 h2)
theorem o_iloadN (W : Wk p l e R s m args below meth c own Z hb ws I T h locs cells slots) {k : Fin 4} {v : Int32} (pc' : Nat) (hd : decode c.code pc = .ok (.iload_n k, 1)) (hl : L[k.val]? = some (.val (.int v))) (hp : pc + 1 = pc') (K : Gl p.tables e below P T m pc' L (.int v :: S)) : Gl p.tables e below P T m pc L S := by
  subst hp; exact Gl.st (fun _ q => XS.iloadN W.1.here W.2.1 rfl hd hl q) K
theorem o_iload (W : Wk p l e R s m args below meth c own Z hb ws I T h locs cells slots) {k : Nat} {v : Int32} (pc' : Nat) (hd : decode c.code pc = .ok (.iload k, 2)) (hl : L[k]? = some (.val (.int v))) (hp : pc + 2 = pc') (K : Gl p.tables e below P T m pc' L (.int v :: S)) : Gl p.tables e below P T m pc L S := by
  subst hp; exact Gl.st (fun _ q => XS.iload W.1.here W.2.1 rfl hd hl q) K
theorem o_istoreN (W : Wk p l e R s m args below meth c own Z hb ws I T h locs cells slots) {k : Fin 4} {v : Int32} {L' : Array Slot} (pc' : Nat) (hd : decode c.code pc = .ok (.istore_n k, 1)) (hl : storeLocals L k.val (.int v) = some L') (hp : pc + 1 = pc') (K : Gl p.tables e below P T m pc' L' S) : Gl p.tables e below P T m pc L (.int v :: S) := by
  subst hp; exact Gl.st (fun _ q => XS.istoreN W.1.here W.2.1 rfl hd rfl hl q) K
theorem o_istore (W : Wk p l e R s m args below meth c own Z hb ws I T h locs cells slots) {k : Nat} {v : Int32} {L' : Array Slot} (pc' : Nat) (hd : decode c.code pc = .ok (.istore k, 2)) (hl : storeLocals L k (.int v) = some L') (hp : pc + 2 = pc') (K : Gl p.tables e below P T m pc' L' S) : Gl p.tables e below P T m pc L (.int v :: S) := by
  subst hp; exact Gl.st (fun _ q => XS.istore W.1.here W.2.1 rfl hd rfl hl q) K
theorem o_aloadN (W : Wk p l e R s m args below meth c own Z hb ws I T h locs cells slots) {k : Fin 4} {v : Value} (pc' : Nat) (hd : decode c.code pc = .ok (.aload_n k, 1)) (hl : L[k.val]? = some (.val v)) (hv : v.isRef = true) (hp : pc + 1 = pc') (K : Gl p.tables e below P T m pc' L (v :: S)) : Gl p.tables e below P T m pc L S := by
  subst hp; exact Gl.st (fun _ q => XS.aloadN W.1.here W.2.1 rfl hd hl hv q) K
theorem o_aload (W : Wk p l e R s m args below meth c own Z hb ws I T h locs cells slots) {k : Nat} {v : Value} (pc' : Nat) (hd : decode c.code pc = .ok (.aload k, 2)) (hl : L[k]? = some (.val v)) (hv : v.isRef = true) (hp : pc + 2 = pc') (K : Gl p.tables e below P T m pc' L (v :: S)) : Gl p.tables e below P T m pc L S := by
  subst hp; exact Gl.st (fun _ q => XS.aload W.1.here W.2.1 rfl hd hl hv q) K
theorem o_astoreN (W : Wk p l e R s m args below meth c own Z hb ws I T h locs cells slots) {k : Fin 4} {v : Value} {L' : Array Slot} (pc' : Nat) (hd : decode c.code pc = .ok (.astore_n k, 1)) (hv : v.isRef = true) (hl : storeLocals L k.val v = some L') (hp : pc + 1 = pc') (K : Gl p.tables e below P T m pc' L' S) : Gl p.tables e below P T m pc L (v :: S) := by
  subst hp; exact Gl.st (fun _ q => XS.astoreN W.1.here W.2.1 rfl hd rfl hv hl q) K
theorem o_astore (W : Wk p l e R s m args below meth c own Z hb ws I T h locs cells slots) {k : Nat} {v : Value} {L' : Array Slot} (pc' : Nat) (hd : decode c.code pc = .ok (.astore k, 2)) (hv : v.isRef = true) (hl : storeLocals L k v = some L') (hp : pc + 2 = pc') (K : Gl p.tables e below P T m pc' L' S) : Gl p.tables e below P T m pc L (v :: S) := by
  subst hp; exact Gl.st (fun _ q => XS.astore W.1.here W.2.1 rfl hd rfl hv hl q) K
theorem o_iconst (W : Wk p l e R s m args below meth c own Z hb ws I T h locs cells slots) {i : Int} {v : Int32} (pc' : Nat) (hd : decode c.code pc = .ok (.iconst i, 1)) (hv : Int32.ofInt i = v) (hp : pc + 1 = pc') (K : Gl p.tables e below P T m pc' L (.int v :: S)) : Gl p.tables e below P T m pc L S := by
  subst hp; exact Gl.st (fun _ q => XT.iconstV W.1.here W.2.1 rfl v hd hv q) K
theorem o_bipush (W : Wk p l e R s m args below meth c own Z hb ws I T h locs cells slots) {i : Int} {v : Int32} (pc' : Nat) (hd : decode c.code pc = .ok (.bipush i, 2)) (hv : (Int8.ofInt i).toInt32 = v) (hp : pc + 2 = pc') (K : Gl p.tables e below P T m pc' L (.int v :: S)) : Gl p.tables e below P T m pc L S := by
  subst hp; exact Gl.st (fun _ q => XT.bipushV W.1.here W.2.1 rfl v hd hv q) K
theorem o_sipush (W : Wk p l e R s m args below meth c own Z hb ws I T h locs cells slots) {i : Int} {v : Int32} (pc' : Nat) (hd : decode c.code pc = .ok (.sipush i, 3)) (hv : (Int16.ofInt i).toInt32 = v) (hp : pc + 3 = pc') (K : Gl p.tables e below P T m pc' L (.int v :: S)) : Gl p.tables e below P T m pc L S := by
  subst hp; exact Gl.st (fun _ q => XT.sipushV W.1.here W.2.1 rfl v hd hv q) K
theorem o_aconstNull (W : Wk p l e R s m args below meth c own Z hb ws I T h locs cells slots)  (pc' : Nat) (hd : decode c.code pc = .ok (.aconst_null, 1)) (hp : pc + 1 = pc') (K : Gl p.tables e below P T m pc' L (.null :: S)) : Gl p.tables e below P T m pc L S := by
  subst hp; exact Gl.st (fun _ q => XS.aconstNull W.1.here W.2.1 rfl hd q) K
theorem o_iadd (W : Wk p l e R s m args below meth c own Z hb ws I T h locs cells slots) {x y v : Int32} (pc' : Nat) (hd : decode c.code pc = .ok (.iadd, 1)) (hv : x + y = v) (hp : pc + 1 = pc') (K : Gl p.tables e below P T m pc' L (.int v :: S)) : Gl p.tables e below P T m pc L (.int y :: .int x :: S) := by
  subst hp; exact Gl.st (fun _ q => XS.iadd W.1.here W.2.1 rfl hd rfl (by rw [hv]; exact q)) K
theorem o_isub (W : Wk p l e R s m args below meth c own Z hb ws I T h locs cells slots) {x y v : Int32} (pc' : Nat) (hd : decode c.code pc = .ok (.isub, 1)) (hv : x - y = v) (hp : pc + 1 = pc') (K : Gl p.tables e below P T m pc' L (.int v :: S)) : Gl p.tables e below P T m pc L (.int y :: .int x :: S) := by
  subst hp; exact Gl.st (fun _ q => XS.isub W.1.here W.2.1 rfl hd rfl (by rw [hv]; exact q)) K
theorem o_iand (W : Wk p l e R s m args below meth c own Z hb ws I T h locs cells slots) {x y v : Int32} (pc' : Nat) (hd : decode c.code pc = .ok (.iand, 1)) (hv : x &&& y = v) (hp : pc + 1 = pc') (K : Gl p.tables e below P T m pc' L (.int v :: S)) : Gl p.tables e below P T m pc L (.int y :: .int x :: S) := by
  subst hp; exact Gl.st (fun _ q => XS.iand W.1.here W.2.1 rfl hd rfl (by rw [hv]; exact q)) K
theorem o_ior (W : Wk p l e R s m args below meth c own Z hb ws I T h locs cells slots) {x y v : Int32} (pc' : Nat) (hd : decode c.code pc = .ok (.ior, 1)) (hv : x ||| y = v) (hp : pc + 1 = pc') (K : Gl p.tables e below P T m pc' L (.int v :: S)) : Gl p.tables e below P T m pc L (.int y :: .int x :: S) := by
  subst hp; exact Gl.st (fun _ q => XS.ior W.1.here W.2.1 rfl hd rfl (by rw [hv]; exact q)) K
theorem o_ishl (W : Wk p l e R s m args below meth c own Z hb ws I T h locs cells slots) {x v : Int32} {y : Int32} (pc' : Nat) (hd : decode c.code pc = .ok (.ishl, 1)) (hv : x <<< (y &&& 31) = v) (hp : pc + 1 = pc') (K : Gl p.tables e below P T m pc' L (.int v :: S)) : Gl p.tables e below P T m pc L (.int y :: .int x :: S) := by
  subst hp; exact Gl.st (fun _ q => XS.ishl W.1.here W.2.1 rfl hd rfl (by rw [hv]; exact q)) K
theorem o_ishr (W : Wk p l e R s m args below meth c own Z hb ws I T h locs cells slots) {x v : Int32} {y : Int32} (pc' : Nat) (hd : decode c.code pc = .ok (.ishr, 1)) (hv : x >>> (y &&& 31) = v) (hp : pc + 1 = pc') (K : Gl p.tables e below P T m pc' L (.int v :: S)) : Gl p.tables e below P T m pc L (.int y :: .int x :: S) := by
  subst hp; exact Gl.st (fun _ q => XS.ishr W.1.here W.2.1 rfl hd rfl (by rw [hv]; exact q)) K
theorem o_iushr (W : Wk p l e R s m args below meth c own Z hb ws I T h locs cells slots) {x v : Int32} {y : Int32} (pc' : Nat) (hd : decode c.code pc = .ok (.iushr, 1)) (hv : (x.toUInt32 >>> (y &&& 31).toUInt32).toInt32 = v) (hp : pc + 1 = pc') (K : Gl p.tables e below P T m pc' L (.int v :: S)) : Gl p.tables e below P T m pc L (.int y :: .int x :: S) := by
  subst hp; exact Gl.st (fun _ q => XS.iushr W.1.here W.2.1 rfl hd rfl (by rw [hv]; exact q)) K
theorem o_i2b (W : Wk p l e R s m args below meth c own Z hb ws I T h locs cells slots) {x : Int32} {v : Int32} (pc' : Nat) (hd : decode c.code pc = .ok (.i2b, 1)) (hv : x.toInt8.toInt32 = v) (hp : pc + 1 = pc') (K : Gl p.tables e below P T m pc' L (.int v :: S)) : Gl p.tables e below P T m pc L (.int x :: S) := by
  subst hp; exact Gl.st (fun _ q => XS.i2b W.1.here W.2.1 rfl hd rfl (by rw [hv]; exact q)) K
theorem o_i2c (W : Wk p l e R s m args below meth c own Z hb ws I T h locs cells slots) {x : Int32} {v : Int32} (pc' : Nat) (hd : decode c.code pc = .ok (.i2c, 1)) (hv : x.toUInt32.toUInt16.toUInt32.toInt32 = v) (hp : pc + 1 = pc') (K : Gl p.tables e below P T m pc' L (.int v :: S)) : Gl p.tables e below P T m pc L (.int x :: S) := by
  subst hp; exact Gl.st (fun _ q => XS.i2c W.1.here W.2.1 rfl hd rfl (by rw [hv]; exact q)) K
theorem o_irem (W : Wk p l e R s m args below meth c own Z hb ws I T h locs cells slots) {x y v : Int32} (pc' : Nat) (hd : decode c.code pc = .ok (.irem, 1)) (hy : y ≠ 0) (hv : x % y = v) (hp : pc + 1 = pc') (K : Gl p.tables e below P T m pc' L (.int v :: S)) : Gl p.tables e below P T m pc L (.int y :: .int x :: S) := by
  subst hp; exact Gl.st (fun _ q => iremM W.1 W.2.1 rfl hd rfl hy (by rw [hv]; exact q)) K
theorem o_iinc (W : Wk p l e R s m args below meth c own Z hb ws I T h locs cells slots) {k : Nat} {i : Int} {x v : Int32} {L' : Array Slot} (pc' : Nat) (hd : decode c.code pc = .ok (.iinc k i, 3)) (hl : L[k]? = some (.val (.int x))) (hv : x + Int32.ofInt i = v) (hl' : storeLocals L k (.int v) = some L') (hp : pc + 3 = pc') (K : Gl p.tables e below P T m pc' L' S) : Gl p.tables e below P T m pc L S := by
  subst hp; exact Gl.st (fun _ q => XS.iinc W.1.here W.2.1 rfl hd hl (by rw [hv]; exact hl') q) K
theorem o_dup (W : Wk p l e R s m args below meth c own Z hb ws I T h locs cells slots) {x : Value} (pc' : Nat) (hd : decode c.code pc = .ok (.dup, 1)) (hc : x.category = 1) (hp : pc + 1 = pc') (K : Gl p.tables e below P T m pc' L (x :: x :: S)) : Gl p.tables e below P T m pc L (x :: S) := by
  subst hp; exact Gl.st (fun _ q => XS.dup W.1.here W.2.1 rfl hd rfl hc q) K
theorem o_pop (W : Wk p l e R s m args below meth c own Z hb ws I T h locs cells slots) {x : Value} (pc' : Nat) (hd : decode c.code pc = .ok (.pop, 1)) (hc : x.category = 1) (hp : pc + 1 = pc') (K : Gl p.tables e below P T m pc' L S) : Gl p.tables e below P T m pc L (x :: S) := by
  subst hp; exact Gl.st (fun _ q => XS.pop W.1.here W.2.1 rfl hd rfl hc q) K
theorem o_goto (W : Wk p l e R s m args below meth c own Z hb ws I T h locs cells slots) {o : Int} (pc' : Nat) (hd : decode c.code pc = .ok (.goto o, 3)) (ho : 0 ≤ (pc : Int) + o) (hp : ((pc : Int) + o).toNat = pc') (K : Gl p.tables e below P T m pc' L S) : Gl p.tables e below P T m pc L S := by
  exact Gl.st (fun _ q => XS.goto W.1.here W.2.1 rfl (pc0 := pc) rfl hd ho hp q) K
theorem o_ifY (W : Wk p l e R s m args below meth c own Z hb ws I T h locs cells slots) {o : Int} {cd : ClassFile.Cond} {x : Int32} (pc' : Nat) (hd : decode c.code pc = .ok (.ifCond cd o, 3)) (hc : ifCond.holds cd x = true) (ho : 0 ≤ (pc : Int) + o) (hp : ((pc : Int) + o).toNat = pc') (K : Gl p.tables e below P T m pc' L S) : Gl p.tables e below P T m pc L (.int x :: S) := by
  exact Gl.st (fun _ q => XS.ifYes W.1.here W.2.1 rfl (pc0 := pc) rfl hd rfl hc ho hp q) K
theorem o_ifN (W : Wk p l e R s m args below meth c own Z hb ws I T h locs cells slots) {o : Int} {cd : ClassFile.Cond} {x : Int32} (pc' : Nat) (hd : decode c.code pc = .ok (.ifCond cd o, 3)) (hc : ifCond.holds cd x = false) (hp : pc + 3 = pc') (K : Gl p.tables e below P T m pc' L S) : Gl p.tables e below P T m pc L (.int x :: S) := by
  subst hp; exact Gl.st (fun _ q => XS.ifNo W.1.here W.2.1 rfl hd rfl hc q) K
theorem o_icmpY (W : Wk p l e R s m args below meth c own Z hb ws I T h locs cells slots) {o : Int} {cd : ClassFile.Cond} {x y : Int32} (pc' : Nat) (hd : decode c.code pc = .ok (.if_icmp cd o, 3)) (hc : if_icmp.holds cd x y = true) (ho : 0 ≤ (pc : Int) + o) (hp : ((pc : Int) + o).toNat = pc') (K : Gl p.tables e below P T m pc' L S) : Gl p.tables e below P T m pc L (.int y :: .int x :: S) := by
  exact Gl.st (fun _ q => XS.icmpYes W.1.here W.2.1 rfl (pc0 := pc) rfl hd rfl hc ho hp q) K
theorem o_icmpN (W : Wk p l e R s m args below meth c own Z hb ws I T h locs cells slots) {o : Int} {cd : ClassFile.Cond} {x y : Int32} (pc' : Nat) (hd : decode c.code pc = .ok (.if_icmp cd o, 3)) (hc : if_icmp.holds cd x y = false) (hp : pc + 3 = pc') (K : Gl p.tables e below P T m pc' L S) : Gl p.tables e below P T m pc L (.int y :: .int x :: S) := by
  subst hp; exact Gl.st (fun _ q => XS.icmpNo W.1.here W.2.1 rfl hd rfl hc q) K
theorem o_getF (W : Wk p l e R s m args below meth c own Z hb ws I T h locs cells slots) {R0 O n d : String} {index : Nat} (w : (Cond.fieldLink own index R0 n d).before a0 Z = true) (via : Via Z R0 O n d) {a : Addr} {v : Value} (F : Fld Z h a O n d v) (pc' : Nat) (hd : decode c.code pc = .ok (.getfield index, 3)) (hp : pc + 3 = pc')
    (K : ∀ T', Wk p l e R s m args below meth c own Z hb ws I T' h locs cells slots → Gl p.tables e below P T' m pc' L (v :: S)) : Gl p.tables e below P T m pc L (.ref a :: S) := by
  subst hp
  obtain ⟨X, hx, eT, hZ, ho, r⟩ := W
  obtain ⟨T', X', e', st⟩ := getF X hx hZ ho (host := "") (Or.inl w) via eT F (g := mkF m pc L (.ref a :: S)) rfl rfl hd
  exact Gl.st st (K T' ⟨X', hx, e', hZ, ho, r⟩)
theorem o_getS (W : Wk p l e R s m args below meth c own Z hb ws I T h locs cells slots) {R0 O n d : String} {index : Nat} (w : (Cond.fieldLink own index R0 n d).before a0 Z = true) (via : Via Z R0 O n d) {v : Value} (F : Sta Z h O n d v) (pc' : Nat) (hd : decode c.code pc = .ok (.getstatic index, 3)) (hp : pc + 3 = pc')
    (K : ∀ T', Wk p l e R s m args below meth c own Z hb ws I T' h locs cells slots → Gl p.tables e below P T' m pc' L (v :: S)) : Gl p.tables e below P T m pc L S := by
  subst hp
  obtain ⟨X, hx, eT, hZ, ho, r⟩ := W
  obtain ⟨T', X', e', st⟩ := getS (host := "") X hx hZ ho w via eT F (g := mkF m pc L S) rfl hd
  exact Gl.st st (K T' ⟨X', hx, e', hZ, ho, r⟩)
theorem o_putF (W : Wk p l e R s m args below meth c own Z hb ws I T h locs cells slots) {R0 O n d C : String} {index kk : Nat} {ty : FieldType} (w : (Cond.fieldLink own index R0 n d).before a0 Z = true) (via : Via Z R0 O n d) {a : Addr} {v v' old : Value} (F : Fld Z h a O n d old) (E : Exa Z h a C)
    (Lz : (Cond.lays C O n d).before a0 Z = true ∨ ((Cond.laysFinal C O n d).before a0 Z = true ∧ own = O ∧ meth.name = "<init>")) (wi : (Cond.instantiable C kk).before a0 Z = true) (hty : parseFieldDescriptor d = some ty) (hn : narrow ty v = v') (hf : fits ty v' = true)
    (g1 : Z.heap.size ≤ a) (g2 : a ∈ ws ∨ hb.size ≤ a) (hI : ∀ h', Wr h h' a (Jvm.RoadKit.slotOf Z O n d) v' → I h') (pc' : Nat) (hd : decode c.code pc = .ok (.putfield index, 3)) (hp : pc + 3 = pc')
    (K : ∀ T' h' locs', Wk p l e R s m args below meth c own Z hb ws I T' h' locs' cells slots → Wr h h' a (Jvm.RoadKit.slotOf Z O n d) v' → Gl p.tables e below P T' m pc' L S) : Gl p.tables e below P T m pc L (v :: .ref a :: S) := by
  subst hp
  obtain ⟨X, hx, eT, hZ, ho, o, fr, kp, i⟩ := W
  obtain ⟨T', h', X', e', Wr', st⟩ := putFN X hx hZ ho w via eT F E Lz wi hty hn hf (g := mkF m pc L (v :: .ref a :: S)) rfl rfl hd
  exact Gl.st st (K T' h' _ ⟨X', hx, e', hZ, ho, o.wr Wr' g1, Fr.snoc X' fr g1, kp.wr Wr' g2, hI _ Wr'⟩ Wr')
theorem o_new (W : Wk p l e R s m args below meth c own Z hb ws I T h locs cells slots) {C : String} {index n : Nat} (w : (Cond.classLink own index C).before a0 Z = true) (wi : (Cond.instantiable C n).before a0 Z = true) (wz : (Cond.initialized C).before a0 Z = true) (hI : ∀ h', Ext h h' → I h')
    (pc' : Nat) (hd : decode c.code pc = .ok (.new index, 3)) (hp : pc + 3 = pc') (hc' : cells + 1 = cells') (hs' : slots + n = slots') (hc : cells' ≤ R.cells) (hs : slots' ≤ R.slots)
    (K : ∀ b T' h', Wk p l e R s m args below meth c own Z hb ws I T' h' locs cells' slots' → Ext h h' → h.size ≤ b → Z.heap.size ≤ b → hb.size ≤ b → Exa Z h' b C → (∀ {O nm d : String} {ty : FieldType}, Laid Z a0 C O nm d → parseFieldDescriptor d = some ty → Fld Z h' b O nm d (defaultValue ty)) → Gl p.tables e below P T' m pc' L (.ref b :: S)) : Gl p.tables e below P T m pc L S := by
  subst hp hc' hs'
  obtain ⟨X, hx, eT, hZ, ho, o, fr, kp, i⟩ := W
  obtain ⟨T', h', X', e', E, A, D, -, st⟩ := newO X hx hZ ho w wi wz eT (g := mkF m pc L S) rfl hd hc hs
  exact Gl.st st (K _ T' h' ⟨X', hx, e', hZ, ho, o.ext E, fr, kp.ext E, hI _ E⟩ E (Nat.le_refl _) o.2.1 kp.1 A D)
theorem o_newP (W : Wk p l e R s m args below meth c own Z hb ws I T h locs cells slots) {aty : ArrayType} (w : (Cond.arrayClass (newarray.typeOf aty)).before a0 Z = true) (hI : ∀ h', Ext h h' → I h') {n : Int32} (hn : ¬ n < 0) {cap : Nat} (hcap : n.toNatClampNeg ≤ cap) (hb8 : cap * 8 ≤ 536870912)
    (pc' : Nat) (hd : decode c.code pc = .ok (.newarray aty, 2)) (hp : pc + 2 = pc') (hc' : cells + 1 = cells') (hs' : slots + cap = slots') (hc : cells' ≤ R.cells) (hs : slots' ≤ R.slots) {vs : List Value} {dv : Value} (hdv : defaultValue (newarray.typeOf aty) = dv) (hv : vs = List.replicate vs.length dv)
    (K : ∀ b T' h' k, Wk p l e R s m args below meth c own Z hb ws I T' h' locs cells' slots' → Ext h h' → h.size ≤ b → Z.heap.size ≤ b → hb.size ≤ b → Arv Z h' b k (newarray.typeOf aty) n vs dv → Gl p.tables e below P T' m pc' L (.ref b :: S)) : Gl p.tables e below P T m pc L (.int n :: S) := by
  subst hp hc' hs' hdv
  obtain ⟨X, hx, eT, hZ, ho, o, fr, kp, i⟩ := W
  obtain ⟨T', h', k, X', e', E, A, st⟩ := newP X hx hZ w eT (g := mkF m pc L (.int n :: S)) rfl hd rfl hn hcap hb8 hc hs
  exact Gl.st st (K _ T' h' k ⟨X', hx, e', hZ, ho, o.ext E, fr, kp.ext E, hI _ E⟩ E (Nat.le_refl _) o.2.1 kp.1 ((Arv.new A hn).pad (by rw [hv]; exact pad_rep [] _ _)))
theorem o_len (W : Wk p l e R s m args below meth c own Z hb ws I T h locs cells slots) {a : Addr} {k : ClassId} {ty : FieldType} {z : Int32} {vs : List Value} {dv : Value} (V : Arv Z h a k ty z vs dv) (pc' : Nat) (hd : decode c.code pc = .ok (.arraylength, 1)) (hp : pc + 1 = pc')
    (K : Gl p.tables e below P T m pc' L (.int z :: S)) : Gl p.tables e below P T m pc L (.ref a :: S) := by
  subst hp
  obtain ⟨X, hx, eT, hZ, ho, r⟩ := W
  obtain ⟨cl, A, -, Sz, N, -⟩ := V
  refine Gl.st (X.arraylength hx (by rw [eT]; exact A.1) (State.isArrayOf_alike hZ.alike A.2.1) (g := mkF m pc L (.ref a :: S)) rfl rfl hd) ?_
  rw [len_of Sz N]; exact K
theorem own_inb {z j : Int32} {c : Cell} {i : Nat} (Sz : c.slots.size = z.toNatClampNeg) (hj : j.toNatClampNeg = i) (hj0 : ¬ j < 0) (hi : i < z.toNatClampNeg) : ¬ (j < 0 ∨ c.slots.size ≤ j.toNatClampNeg) := by
  rintro (q | q)
  · exact hj0 q
  · rw [Sz, hj] at q; omega
theorem o_stC (W : Wk p l e R s m args below meth c own Z hb ws I T h locs cells slots) {a : Addr} {k : ClassId} {z : Int32} {vs vs' : List Value} {dv : Value} (V : Arv Z h a k .char z vs dv) {j x x' : Int32} {i : Nat} (hj : j.toNatClampNeg = i) (hj0 : ¬ j < 0) (hi : i < z.toNatClampNeg) (hi' : i < vs.length) (hx' : nar .char x = x') (hv : vs.set i (.int x') = vs')
    (g1 : Z.heap.size ≤ a) (g2 : a ∈ ws ∨ hb.size ≤ a) (hI : ∀ h', Wr h h' a i (.int x') → I h') (pc' : Nat) (hd : decode c.code pc = .ok (.castore, 1)) (hp : pc + 1 = pc')
    (K : ∀ T' h' locs', Wk p l e R s m args below meth c own Z hb ws I T' h' locs' cells slots → Wr h h' a i (.int x') → Arv Z h' a k .char z vs' dv → Gl p.tables e below P T' m pc' L S) : Gl p.tables e below P T m pc L (.int x :: .int j :: .ref a :: S) := by
  subst hp hx' hv
  obtain ⟨X, hx, eT, hZ, ho, o, fr, kp, i'⟩ := W
  obtain ⟨cl, A, q, Sz, N, H, G⟩ := V
  obtain ⟨T', h', X', e', Wr', st⟩ := stC X hx hZ eT A (own_inb Sz hj hj0 hi) (g := mkF m pc L (.int x :: .int j :: .ref a :: S)) rfl rfl hd
  have V' := Arv.set A q Sz N H G (fits_nar_char x) Wr' i hj hi'
  subst hj
  exact Gl.st st (K T' h' _ ⟨X', hx, e', hZ, ho, o.wr Wr' g1, Fr.snoc X' fr g1, kp.wr Wr' g2, hI _ Wr'⟩ Wr' V')
theorem o_stB (W : Wk p l e R s m args below meth c own Z hb ws I T h locs cells slots) {a : Addr} {k : ClassId} {z : Int32} {vs vs' : List Value} {dv : Value} (V : Arv Z h a k .byte z vs dv) {j x x' : Int32} {i : Nat} (hj : j.toNatClampNeg = i) (hj0 : ¬ j < 0) (hi : i < z.toNatClampNeg) (hi' : i < vs.length) (hx' : nar .byte x = x') (hv : vs.set i (.int x') = vs')
    (g1 : Z.heap.size ≤ a) (g2 : a ∈ ws ∨ hb.size ≤ a) (hI : ∀ h', Wr h h' a i (.int x') → I h') (pc' : Nat) (hd : decode c.code pc = .ok (.bastore, 1)) (hp : pc + 1 = pc')
    (K : ∀ T' h' locs', Wk p l e R s m args below meth c own Z hb ws I T' h' locs' cells slots → Wr h h' a i (.int x') → Arv Z h' a k .byte z vs' dv → Gl p.tables e below P T' m pc' L S) : Gl p.tables e below P T m pc L (.int x :: .int j :: .ref a :: S) := by
  subst hp hx' hv
  obtain ⟨X, hx, eT, hZ, ho, o, fr, kp, i'⟩ := W
  obtain ⟨cl, A, q, Sz, N, H, G⟩ := V
  obtain ⟨T', h', X', e', Wr', st⟩ := stB X hx hZ eT A (own_inb Sz hj hj0 hi) (g := mkF m pc L (.int x :: .int j :: .ref a :: S)) rfl rfl hd
  have V' := Arv.set A q Sz N H G (fits_nar_byte x) Wr' i hj hi'
  subst hj
  exact Gl.st st (K T' h' _ ⟨X', hx, e', hZ, ho, o.wr Wr' g1, Fr.snoc X' fr g1, kp.wr Wr' g2, hI _ Wr'⟩ Wr' V')
theorem o_caload (W : Wk p l e R s m args below meth c own Z hb ws I T h locs cells slots) {a : Addr} {k : ClassId} {z : Int32} {vs : List Value} {dv : Value} (V : Arv Z h a k .char z vs dv) {j x : Int32} {i : Nat} (hj : j.toNatClampNeg = i) (hj0 : ¬ j < 0) (hi : i < z.toNatClampNeg) (hv : vs.getD i dv = .int x) (pc' : Nat) (hd : decode c.code pc = .ok (.caload, 1)) (hp : pc + 1 = pc')
    (K : Gl p.tables e below P T m pc' L (.int x :: S)) : Gl p.tables e below P T m pc L (.int j :: .ref a :: S) := by
  subst hp hj
  obtain ⟨X, hx, eT, hZ, ho, r⟩ := W
  obtain ⟨cl, A, -, Sz, N, H, -⟩ := V
  have hin := own_inb Sz rfl hj0 hi
  exact Gl.st (X.caload hx (by rw [eT]; exact A.1) (State.isArrayOf_alike hZ.alike A.2.1) A.2.2 hin (H.at hin hv) (g := mkF m pc L (.int j :: .ref a :: S)) rfl rfl hd) K
theorem o_baload (W : Wk p l e R s m args below meth c own Z hb ws I T h locs cells slots) {a : Addr} {k : ClassId} {z : Int32} {vs : List Value} {dv : Value} (V : Arv Z h a k .byte z vs dv) {j x : Int32} {i : Nat} (hj : j.toNatClampNeg = i) (hj0 : ¬ j < 0) (hi : i < z.toNatClampNeg) (hv : vs.getD i dv = .int x) (pc' : Nat) (hd : decode c.code pc = .ok (.baload, 1)) (hp : pc + 1 = pc')
    (K : Gl p.tables e below P T m pc' L (.int x :: S)) : Gl p.tables e below P T m pc L (.int j :: .ref a :: S) := by
  subst hp hj
  obtain ⟨X, hx, eT, hZ, ho, r⟩ := W
  obtain ⟨cl, A, -, Sz, N, H, -⟩ := V
  have hin := own_inb Sz rfl hj0 hi
  exact Gl.st (X.baloadBytes hx (by rw [eT]; exact A.1) (State.isArrayOf_alike hZ.alike A.2.1) A.2.2 hin (H.at hin hv) (g := mkF m pc L (.int j :: .ref a :: S)) rfl rfl hd) K
theorem o_ldcI (W : Wk p l e R s m args below meth c own Z hb ws I T h locs cells slots) {index : Nat} {v : Int32} (w : (Cond.constant own index v).before a0 Z = true) (pc' : Nat) (hd : decode c.code pc = .ok (.ldc index, 2)) (hp : pc + 2 = pc') (K : Gl p.tables e below P T m pc' L (.int v :: S)) : Gl p.tables e below P T m pc L S := by
  subst hp
  exact Gl.st (W.1.ldcInt W.2.1 W.2.2.2.2.1 (mvT W.2.2.2.1 w) (g := mkF m pc L S) rfl hd) K
theorem o_initO (W : Wk p l e R s m args below meth c own Z hb ws I T h locs cells slots) {idx : Nat} (w1 : (Cond.methodLink own idx Lib.objectInit).before a0 Z = true) (w2 : (Cond.instanceMethod Lib.objectInit).before a0 Z = true) (w3 : (Cond.code Lib.objectInit ⟨#[0xb1]⟩ 1 none).before a0 Z = true) {a : Addr} (hml : L.size = c.maxLocals)
    (pc' : Nat) (hd : decode c.code pc = .ok (.invokespecial idx, 3)) (hp : pc + 3 = pc') (hf : 1 ≤ R.frames) (Wd : Nat) (hW : 2 * 0 + (S.map fun v => v.category).sum ≤ Wd) (hl : Wd + 12 ≤ R.locals)
    (K : ∀ T', Wk p l e R s m args below meth c own Z hb ws I T' h locs cells slots → Gl p.tables e below P T' m pc' L S) : Gl p.tables e below P T m pc L (.ref a :: S) := by
  subst hp
  obtain ⟨X, hx, eT, hZ, ho, r⟩ := W
  obtain ⟨T', X', e', st⟩ := initO X hx hZ ho w1 w2 w3 eT (g := mkF m pc L (.ref a :: S)) rfl hml rfl hd hf hW hl
  exact Gl.st st (K T' ⟨X', hx, e', hZ, ho, r⟩)
abbrev BackQ (l : Launch) (R : Room) (p : Program) (e : Env) (below : List Frame) (s : State) (args : Array Value) (y : MethodName) (len Wd : Nat) (as' : Array Value) (h : Heap) (kc ks : Nat) (Q : Option Value → Heap → List Loc → Prop) : Prop :=
  Back l R p e below s args y len Wd (fun A a => a = as' ∧ A.U.heap = h ∧ A.cells + kc ≤ R.cells ∧ A.slots + ks ≤ R.slots) (fun A _ v B => ∃ L, Q v B.U.heap L ∧ B.locs = A.locs ++ L ∧ B.cells = A.cells + kc ∧ B.slots = A.slots + ks)
theorem o_after (W : Wk p l e R s m args below meth c own Z hb ws I T h locs cells slots) {B : Pt} {v : Option Value} {kc ks : Nat} {Q : Option Value → Heap → List Loc → Prop} {wy : List Addr} (X' : Stand p l e R s m args below meth c B.U B.locs B.cells B.slots) (hpost : ∃ L, Q v B.U.heap L ∧ B.locs = locs ++ L ∧ B.cells = cells + kc ∧ B.slots = slots + ks)
    (hq : ∀ v hh L, Q v hh L → Fr Z.heap.size L ∧ Keep h hh wy) (hg : ∀ x ∈ wy, Z.heap.size ≤ x ∧ (x ∈ ws ∨ hb.size ≤ x)) (hI : ∀ h', Keep h h' wy → I h') :
    ∃ L, Q v B.U.heap L ∧ Keep h B.U.heap wy ∧ Wk p l e R s m args below meth c own Z hb ws I B.U B.U.heap (locs ++ L) (cells + kc) (slots + ks) := by
  obtain ⟨X, hx, eT, hZ, ho, o, fr, kp, i⟩ := W
  obtain ⟨⟨U, lo, kc', ks'⟩, rfl⟩ : ∃ B', B' = B := ⟨_, rfl⟩
  obtain ⟨L', q, e1, e2, e3⟩ := hpost
  have e1 : lo = locs ++ L' := e1
  have e2 : kc' = cells + kc := e2
  have e3 : ks' = slots + ks := e3
  subst e1 e2 e3
  obtain ⟨f, k⟩ := hq _ _ _ q
  exact ⟨L', q, k, X', hx, rfl, hZ, ho, o.keep k (fun x hx => (hg x hx).1), fr.app f, kp.trans k (fun x hx => (hg x hx).2), hI _ k⟩
theorem o_static (W : Wk p l e R s m args below meth c own Z hb ws I T h locs cells slots) {index : Nat} {y : MethodName} {bytes : ByteArray} {maxL : Nat} {ret : Option FieldType} (w1 : (Cond.methodLink own index y).before a0 Z = true) (w2 : (Cond.static y).before a0 Z = true) (w3 : (Cond.initialized y.cls).before a0 Z = true) (w4 : (Cond.code y bytes maxL ret).before a0 Z = true)
    (hy : y.cls ≠ "java/lang/invoke/MethodHandle" ∧ y.cls ≠ "java/lang/invoke/VarHandle") {Wd kc ks : Nat} {Q : Option Value → Heap → List Loc → Prop} {argsL : List Value} (B : BackQ l R p e below s args y 3 Wd argsL.toArray h kc ks Q) (hml : L.size = c.maxLocals)
    (hlen : ∀ sig, parseMethodDescriptor y.desc = some sig → argsL.length = sig.parameters.length) {S0 : List Value} (hS : S0 = argsL.reverse ++ S) (hW : 2 * 0 + (S.map fun v => v.category).sum ≤ Wd) (pc' : Nat) (hd : decode c.code pc = .ok (.invokestatic index, 3)) (hp : pc + 3 = pc')
    (hc' : cells + kc = cells') (hs' : slots + ks = slots') (hc : cells' ≤ R.cells) (hs : slots' ≤ R.slots) {wy : List Addr} (hq : ∀ v hh L, Q v hh L → Fr Z.heap.size L ∧ Keep h hh wy) (hg : ∀ x ∈ wy, Z.heap.size ≤ x ∧ (x ∈ ws ∨ hb.size ≤ x)) (hI : ∀ h', Keep h h' wy → I h')
    (K : ∀ v T' h' Lc, Wk p l e R s m args below meth c own Z hb ws I T' h' (locs ++ Lc) cells' slots' → Keep h h' wy → Q v h' Lc → Gl p.tables e below P T' m pc' L (v.toList ++ S)) : Gl p.tables e below P T m pc L S0 := by
  subst hp hc' hs' hS
  obtain ⟨v, vm₁, B', -, X', hpost, st⟩ := Jvm.LawKit.callS W.1 W.2.1 W.2.2.2.2.1 (mvT W.2.2.2.1 w1) (mvT W.2.2.2.1 w2) (mvT W.2.2.2.1 w3) (mvT W.2.2.2.1 w4) hy B (g := mkF m pc L (argsL.reverse ++ S)) rfl hml hlen rfl hW hd (fun _ _ => ⟨rfl, W.2.2.1, hc, hs⟩)
  obtain ⟨Lc, q, k, W'⟩ := o_after W X' hpost hq hg hI
  exact Gl.st st (K v _ _ Lc W' k q)
theorem o_special (W : Wk p l e R s m args below meth c own Z hb ws I T h locs cells slots) {index : Nat} {y : MethodName} {bytes : ByteArray} {maxL : Nat} (hy1 : y.name = "<init>") (w1 : (Cond.methodLink own index y).before a0 Z = true) (w2 : (Cond.instanceMethod y).before a0 Z = true) (w4 : (Cond.code y bytes maxL none).before a0 Z = true)
    (hy : y.cls ≠ "java/lang/invoke/MethodHandle" ∧ y.cls ≠ "java/lang/invoke/VarHandle") {Wd kc ks : Nat} {Q : Option Value → Heap → List Loc → Prop} {a : Addr} {argsL : List Value} (B : BackQ l R p e below s args y 3 Wd (.ref a :: argsL).toArray h kc ks Q) (hml : L.size = c.maxLocals)
    (hlen : ∀ sig, parseMethodDescriptor y.desc = some sig → argsL.length = sig.parameters.length) {S0 : List Value} (hS : S0 = argsL.reverse ++ .ref a :: S) (hW : 2 * 0 + (S.map fun v => v.category).sum ≤ Wd) (pc' : Nat) (hd : decode c.code pc = .ok (.invokespecial index, 3)) (hp : pc + 3 = pc')
    (hc' : cells + kc = cells') (hs' : slots + ks = slots') (hc : cells' ≤ R.cells) (hs : slots' ≤ R.slots) {wy : List Addr} (hq : ∀ v hh L, Q v hh L → Fr Z.heap.size L ∧ Keep h hh wy) (hg : ∀ x ∈ wy, Z.heap.size ≤ x ∧ (x ∈ ws ∨ hb.size ≤ x)) (hI : ∀ h', Keep h h' wy → I h')
    (K : ∀ v T' h' Lc, Wk p l e R s m args below meth c own Z hb ws I T' h' (locs ++ Lc) cells' slots' → Keep h h' wy → Q v h' Lc → Gl p.tables e below P T' m pc' L (v.toList ++ S)) : Gl p.tables e below P T m pc L S0 := by
  subst hp hc' hs' hS
  obtain ⟨v, vm₁, B', -, X', hpost, st⟩ := W.1.specialBack W.2.1 hy1 W.2.2.2.2.1 (mvT W.2.2.2.1 w1) (mvT W.2.2.2.1 w2) (mvT W.2.2.2.1 w4) hy B (g := mkF m pc L (argsL.reverse ++ .ref a :: S)) rfl hml (Steps.refl _) hlen rfl hW hd (fun _ _ => ⟨rfl, W.2.2.1, hc, hs⟩)
  obtain ⟨Lc, q, k, W'⟩ := o_after W X' hpost hq hg hI
  exact Gl.tr st (K v _ _ Lc W' k q)
theorem o_virtual (W : Wk p l e R s m args below meth c own Z hb ws I T h locs cells slots) {index : Nat} {C : String} {y z : MethodName} (w1 : (Cond.methodLink own index y).before a0 Z = true) (w2 : (Cond.declares y).before a0 Z = true) (hnf : NotFace s y) (w3 : (Cond.selects C y z).before a0 Z = true) (w4 : (Cond.instanceMethod z).before a0 Z = true)
    (hy : y.cls ≠ "java/lang/invoke/MethodHandle" ∧ y.cls ≠ "java/lang/invoke/VarHandle") {Wd kc ks : Nat} {Q : Option Value → Heap → List Loc → Prop} {a : Addr} (E : Exa Z h a C) {argsL : List Value} (B : BackQ l R p e below s args z 3 Wd (.ref a :: argsL).toArray h kc ks Q) (hml : L.size = c.maxLocals)
    (hlen : ∀ sig, parseMethodDescriptor y.desc = some sig → argsL.length = sig.parameters.length) {S0 : List Value} (hS : S0 = argsL.reverse ++ .ref a :: S) (hW : 2 * 0 + (S.map fun v => v.category).sum ≤ Wd) (pc' : Nat) (hd : decode c.code pc = .ok (.invokevirtual index, 3)) (hp : pc + 3 = pc')
    (hc' : cells + kc = cells') (hs' : slots + ks = slots') (hc : cells' ≤ R.cells) (hs : slots' ≤ R.slots) {wy : List Addr} (hq : ∀ v hh L, Q v hh L → Fr Z.heap.size L ∧ Keep h hh wy) (hg : ∀ x ∈ wy, Z.heap.size ≤ x ∧ (x ∈ ws ∨ hb.size ≤ x)) (hI : ∀ h', Keep h h' wy → I h')
    (K : ∀ v T' h' Lc, Wk p l e R s m args below meth c own Z hb ws I T' h' (locs ++ Lc) cells' slots' → Keep h h' wy → Q v h' Lc → Gl p.tables e below P T' m pc' L (v.toList ++ S)) : Gl p.tables e below P T m pc L S0 := by
  subst hp hc' hs' hS
  obtain ⟨cB, kB, q1, q2, q3⟩ := isOf W.2.2.2.1 W.2.2.1 E
  obtain ⟨v, vm₁, B', -, X', hpost, st⟩ := W.1.virtualBack W.2.1 W.2.2.2.2.1 (mvT W.2.2.2.1 w1) (mvT W.2.2.2.1 w2) hnf (mvT W.2.2.2.1 w3) (mvT W.2.2.2.1 w4) hy B q1 q3 (g := mkF m pc L (argsL.reverse ++ .ref a :: S)) rfl hml (Steps.refl _) hlen rfl hW hd (fun _ _ => ⟨rfl, W.2.2.1, hc, hs⟩)
  obtain ⟨Lc, q, k, W'⟩ := o_after W X' hpost hq hg hI
  exact Gl.tr st (K v _ _ Lc W' k q)
theorem o_nf (W : Wk p l e R s m args below meth c own Z hb ws I T h locs cells slots) {C : String} {y z : MethodName} (hyz : y = z) (w : (Cond.selects C y z).before a0 Z = true) : NotFace s y := by
  subst hyz
  exact notFace_of_selects (args := #[]) (mvT W.2.2.2.1 w)
def CtrN (l : Launch) (Z : State) (y : MethodName) (bytes : ByteArray) (maxL : Nat) (ret : Option FieldType) (xs : List Jvm.Cond) (rm : Room) (as' : Array Value) (h0 : Heap) (wy : List Addr) (Q : Option Value → Heap → Prop) : Prop :=
  MetFree l y (head1 (Jvm.Cond.code y bytes maxL ret :: xs) rm) (fun a U => a = as' ∧ Z.Warmed39 U.vm ∧ U.heap = h0) (fun _ _ _ _ _ => True) (fun _ U o U' => ∃ v L, o = .returned v ∧ (Fr Z.heap.size L ∧ Keep h0 U'.heap wy ∧ Q v U'.heap) ∧ FrameEnd U o U' L rm.cells rm.slots)
def PN (s : State) (Z : State) (below : List Frame) (h0 : Heap) (wy : List Addr) (rm : Room) (Q : Option Value → Heap → Prop) (s₂ : State) (o : Outcome) : Prop := s₂.status = .running ∧ Ended s₂ below o ∧ ∃ v L, o = .returned v ∧ (Fr Z.heap.size L ∧ Keep h0 s₂.heap wy ∧ Q v s₂.heap) ∧ FrameEnd s o s₂ L rm.cells rm.slots
theorem own_entry {as : List Value} {n : Nat} {Ls : List Slot} (h : Jvm.Sym.laidSlots as ++ List.replicate (n - (Jvm.Sym.laidSlots as).length) Slot.unset = Ls) (m : MethodId) : entryFrame m as.toArray n = mkF m 0 Ls.toArray [] := by
  have e : argsToLocals as.toArray n = Ls.toArray := Array.toList_inj.mp ((Jvm.Sym.argsToLocals_toList _ _).trans h)
  exact congrArg (fun L => mkF m 0 L []) e
theorem CtrN.intro {y : MethodName} {bytes : ByteArray} {maxL : Nat} {ret : Option FieldType} {xs : List Jvm.Cond} {rm : Room} {as' : Array Value} {h0 : Heap} {wy : List Addr} {Q : Option Value → Heap → Prop} {L0 : Array Slot} (hx : plainFor y = true) (O : Old Z Z.heap.size h0) (hef : ∀ m, entryFrame m as' maxL = mkF m 0 L0 [])
    (body : ∀ (p : Program) (e : Env) (s : State) (m : MethodId) (below : List Frame) (meth : Method) (c : Code) (T : State), c.code = bytes → c.maxLocals = maxL → meth.sig.returnType = ret → meth.locks = false → meth.name = y.name → Wk p l e rm s m as' below meth c y.cls Z h0 wy (fun _ => True) T h0 [] 0 0 → Gl p.tables e below (PN s Z below h0 wy rm Q) T m 0 L0 []) :
    CtrN l Z y bytes maxL ret xs rm as' h0 wy Q := by
  refine MetFree.of_bodySF hx hisR ?_
  intro p e s m args below meth c s₁ Bd hml hP hK
  obtain ⟨rfl, hZ, hh⟩ := hP
  have e0 : s₁.heap = h0 := by rw [← hh, Bd.state]; rfl
  obtain ⟨s2, o, g1, g2, g3, g4⟩ := body p e s m below meth c s₁ Bd.bytes hml Bd.returns Bd.notSynchronized (name_of_methodNamed Bd.named Bd.method).1 ⟨Stand.of_body Bd, Bd.exec, e0, hZ, findClass_of_methodNamed Bd.named, O, Fr.nil _, Keep.refl _ _, trivial⟩
  exact ⟨s2, o, castTop (hef m) g1, g2, g3, g4⟩
theorem CtrN.back {y : MethodName} {bytes : ByteArray} {maxL : Nat} {ret : Option FieldType} {rm : Room} {as' : Array Value} {wy : List Addr} {Q : Option Value → Heap → Prop} {len Wd : Nat} (W : Wk p l e R s m args below meth c own Z hb ws I T h locs cells slots) (C : CtrN l Z y bytes maxL ret [] rm as' h wy Q) (wc : (Cond.code y bytes maxL ret).before a0 Z = true) (wz : (Cond.initialized y.cls).before a0 Z = true)
    (hf : rm.frames + 1 ≤ R.frames) (hl : Wd + (maxL + 11) + rm.locals ≤ R.locals) : BackQ l R p e below s args y len Wd as' h rm.cells rm.slots (fun v hh L => Fr Z.heap.size L ∧ Keep h hh wy ∧ Q v hh) :=
  backOf (Q := fun v hh L => Fr Z.heap.size L ∧ Keep h hh wy ∧ Q v hh) C W.2.2.2.1 wc wz hf hl
theorem o_leaveN {y0 : List Addr} {Q : Option Value → Heap → Prop} {rm : Room} (W : Wk p l e rm s m args below meth c own Z hb ws I T h locs cells slots) (hlk : meth.locks = false) {v : Option Value} (hv : meth.sig.returnType = none → v = none) (hq : Q v h) (hc : cells ≤ rm.cells) (hs : slots ≤ rm.slots) (st : ∀ fs, (∀ (f : JFrame) (acts : List Action), f.method = m → f.locked = none → f.entered = [] → (doReturn e (T.setTop f) acts v).1 = T.setFrames fs) → Steps p.tables e below (T.setTop (mkF m pc L S)) (T.setFrames fs)) :
    Gl p.tables e below (PN s Z below hb ws rm Q) T m pc L S := by
  obtain ⟨X, hx, eT, hZ, ho, o, fr, kp, i⟩ := W
  obtain ⟨fs, hr, hrun, hended, hW, hsame⟩ := X.leave (v := v) hv
  have eh : (T.setFrames fs).heap = h := eT
  exact ⟨_, _, st fs hr, hrun, hended, v, locs, rfl, ⟨fr, by rw [eh]; exact kp, by rw [eh]; exact hq⟩, ⟨_, rfl⟩, hW, hsame.mono hc hs⟩
theorem o_retI (W : Wk p l e R s m args below meth c own Z hb ws I T h locs cells slots) (hlk : meth.locks = false) {Q : Option Value → Heap → Prop} {z : Int32} (hret : meth.sig.returnType = some .int) (hd : decode c.code pc = .ok (.ireturn, 1)) (hc : cells ≤ R.cells) (hs : slots ≤ R.slots) (hq : Q (some (.int z)) h) : Gl p.tables e below (PN s Z below hb ws R Q) T m pc L (.int z :: S) :=
  o_leaveN (y0 := []) W hlk (fun q => by rw [hret] at q; cases q) hq hc hs fun fs hr => retOut W.1 W.2.1 hret rfl (Or.inl ⟨rfl, Or.inl rfl, _, rfl⟩) hd hr
theorem o_retN (W : Wk p l e R s m args below meth c own Z hb ws I T h locs cells slots) (hlk : meth.locks = false) {Q : Option Value → Heap → Prop} {z z' : Int32} {t : FieldType} (hret : meth.sig.returnType = some t) (ht : t = .boolean ∨ t = .byte ∨ t = .char ∨ t = .short) (hz : nar t z = z') (hd : decode c.code pc = .ok (.ireturn, 1)) (hc : cells ≤ R.cells) (hs : slots ≤ R.slots) (hq : Q (some (.int z')) h) : Gl p.tables e below (PN s Z below hb ws R Q) T m pc L (.int z :: S) := by
  subst hz
  exact o_leaveN (y0 := []) W hlk (fun q => by rw [hret] at q; cases q) hq hc hs fun fs hr => retN W.1 W.2.1 hret ht hd hr
theorem o_retA (W : Wk p l e R s m args below meth c own Z hb ws I T h locs cells slots) (hlk : meth.locks = false) {Q : Option Value → Heap → Prop} {t : FieldType} {v : Value} (hret : meth.sig.returnType = some t) (ht : t.isReference = true) (hv : v.isRef = true) (hd : decode c.code pc = .ok (.areturn, 1)) (hc : cells ≤ R.cells) (hs : slots ≤ R.slots) (hq : Q (some v) h) : Gl p.tables e below (PN s Z below hb ws R Q) T m pc L (v :: S) :=
  o_leaveN (y0 := []) W hlk (fun q => by rw [hret] at q; cases q) hq hc hs fun fs hr => retOut W.1 W.2.1 hret (by cases v <;> first | (cases hv; done) | (cases t <;> first | (cases ht; done) | rfl)) (Or.inr (Or.inr (Or.inr (Or.inr ⟨rfl, ht, hv⟩)))) hd hr
theorem o_ret0 (W : Wk p l e R s m args below meth c own Z hb ws I T h locs cells slots) (hlk : meth.locks = false) {Q : Option Value → Heap → Prop} (hret : meth.sig.returnType = none) (hd : decode c.code pc = .ok (.return_, 1)) (hc : cells ≤ R.cells) (hs : slots ≤ R.slots) (hq : Q none h) : Gl p.tables e below (PN s Z below hb ws R Q) T m pc L [] :=
  o_leaveN (y0 := []) W hlk (fun _ => rfl) hq hc hs fun fs hr => W.1.returnOut W.2.1 hret hd hr
end OwnPre

section OwnWide
def IW (s : State) (Z : State) (EL : List (String × Nat)) (V : Vm) (h : Heap) : Prop := (∃ k0, s.Since V k0 ∧ k0 ≤ h.size) ∧ CHv Z EL V h ∧ CHr Z EL s.vm s.heap V h
variable {p : Program} {l : Launch} {e : Env} {R : Room} {s : State} {m : MethodId} {args : Array Value} {below : List Frame} {meth : Method} {c : Code} {T : State} {locs : List Loc} {cells slots cells' slots' : Nat} {Z : State} {a0 : Array Value} {h h' hb : Heap} {ws : List Addr} {own : String} {P : State → Outcome → Prop} {pc pc' : Nat} {L L' : Array Slot} {S : List Value} {EL : List (String × Nat)} {V : Vm}
theorem IW.ext (E : Ext h h') (i : IW s Z EL V h) : IW s Z EL V h' := by
  obtain ⟨⟨k0, h1, h2⟩, h3, h4⟩ := i
  exact ⟨⟨k0, h1, Nat.le_trans h2 E.1⟩, h3.ext E, h4.trans (CHr.ext E h3)⟩
theorem IW.wr {a : Addr} {sl : Nat} {v : Value} (W : Wr h h' a sl v) (S : Safe Z EL V h a) (i : IW s Z EL V h) : IW s Z EL V h' := by
  obtain ⟨⟨k0, h1, h2⟩, h3, h4⟩ := i
  exact ⟨⟨k0, h1, by rw [W.size]; exact h2⟩, h3.wr W S, h4.trans (CHr.wr W S h3)⟩
theorem IW.keep {wy : List Addr} (K : Keep h h' wy) (hs : ∀ x ∈ wy, Safe Z EL V h x) (i : IW s Z EL V h) : IW s Z EL V h' := by
  obtain ⟨⟨k0, h1, h2⟩, h3, h4⟩ := i
  exact ⟨⟨k0, h1, Nat.le_trans h2 K.1⟩, h3.keep K hs, h4.trans (CHr.keep K hs h3)⟩
theorem own_safeS {vm : Vm} {x : Addr} (hal : Z.vm.Alike vm) (E : Exa Z h x "java/lang/String") (F : Fld Z h x "java/lang/String" "value" "[B" .null) : Safe Z EL vm h x := fun B => by
  obtain ⟨pp, -, u, a, -, q, -, G, rfl | rfl⟩ := B
  · obtain ⟨cS, ⟨⟨g1, -, -, ⟨c1, k1, i1, f1, -⟩, -, -, -, v1, -⟩, -⟩, -⟩ := G
    obtain ⟨cell, cf, k, i, f, h1, h2, h3, h4, h5, h6, h7⟩ := F
    cases h1.symm.trans g1
    obtain ⟨k3, e3, -⟩ := State.fieldFound?_setVm (s := Z) hal h2
    have e4 := (show (Wst Z vm h).fieldFound? _ _ _ = _ from e3).symm.trans f1
    simp only [Option.some.injEq, Prod.mk.injEq] at e4
    rw [e4.2.2.2] at h7
    rw [h7] at v1
    simp at v1
  · have hA : (Wst Z vm h).isArrayOf q.SA .byte := by
      obtain ⟨cS, ⟨⟨-, -, -, -, -, -, -, -, -, -, g11, -⟩, -⟩, -⟩ := G
      exact g11
    have hc := G.hd
    obtain ⟨cell, k, h1, h2, h3, -, -⟩ := E
    cases h1.symm.trans hc
    obtain ⟨cS, -, -, hB, -⟩ := G
    have hB' : vm.findClass "[B" = some q.SA.cls := hB
    rw [hal.findClass] at hB'
    obtain ⟨ka, a1, a2⟩ := Vm.findClass_spec hB'
    obtain ⟨kb, b1, b2⟩ := Vm.findClass_spec h2
    cases a1.symm.trans b1
    rw [a2] at b2
    exact absurd b2 (by decide)
def ELn (Z : State) (a0 : Array Value) (EL : List (String × Nat)) (n : Nat) : Prop := ∀ p ∈ EL, ∃ text : String, (Cond.stringLink p.1 p.2 text).before a0 Z = true ∧ (∀ c ∈ text.toList, c.toNat < 256) ∧ text.toList.length ≠ n
theorem ELn.nil {n : Nat} : ELn Z a0 [] n := fun _ hp => by cases hp
theorem ELn.cons {n index : Nat} {text : String} (w : (Cond.stringLink own index text).before a0 Z = true) (ht : ∀ c ∈ text.toList, c.toNat < 256) (hn : text.toList.length ≠ n) (E : ELn Z a0 EL n) : ELn Z a0 ((own, index) :: EL) n := fun p hp => by
  rcases List.mem_cons.mp hp with rfl | hp
  · exact ⟨text, w, ht, hn⟩
  · exact E p hp
theorem o_ldcR (W : Wk p l e R (s.setVm V) m args below meth c own Z hb ws (IW s Z EL V) T h locs cells slots) {text : String} {index : Nat} (w : (Cond.stringLink own index text).before a0 Z = true) (wS : ∀ a ∈ Bundle.stringAtoms, a.before a0 Z = true) (hEL : EW Z a0 EL) (hmem : (own, index) ∈ EL) (pc' : Nat) (hd : decode c.code pc = .ok (.ldc index, 2)) (hp : pc + 2 = pc') {n : Nat} (hn : 4 * text.toList.length ≤ n) (hbig : n ≤ 536870912)
    (hc' : cells + 2 = cells') (hs' : slots + (n + 4) = slots') (hc : cells' ≤ R.cells) (hs : slots' ≤ R.slots) {vs : List Value} {z : Int32} (ht : (∀ c ∈ text.toList, c.toNat < 256) ∧ text.toList.map (fun c => Value.int (Jvm.Lit.byteI c.toNat.toUInt16)) = vs) (hz : ¬ z < 0) (hl : z.toNatClampNeg = vs.length)
    (K : ∀ a T' h' V' b k, Wk p l e R (s.setVm V') m args below meth c own Z hb ws (IW s Z EL V') T' h' locs cells' slots' → Ext h h' → CHr Z EL V h V' h' → Exa Z h' a "java/lang/String" → Fld Z h' a "java/lang/String" "coder" "B" (.int 0) → Fld Z h' a "java/lang/String" "value" "[B" (.ref b) → Arv Z h' b k .byte z vs (.int 0) → (∀ x, Safe Z EL V' h' x → x ≠ a ∧ x ≠ b) → Gl p.tables e below P T' m pc' L (.ref a :: S)) : Gl p.tables e below P T m pc L S := by
  subst hp hc' hs'
  obtain ⟨X, hx, eT, hZ, ho, o, fr, kp, ⟨k0, i1, i2⟩, i3, i4⟩ := W
  obtain ⟨a, T', h', k1, b, k, X', e', E, hS, hk, hW, hf, A1, A2, A3, A4, -, -, hC, -, hne, st⟩ := ldcCH X hx hZ ho w wS eT i1 i2 hEL hmem i3 ht hz hl (g := mkF m pc L S) rfl hd hn hbig hc hs
  exact Gl.st st (K a T' h' T'.vm b k ⟨X', hx, e', hW, hf, o.ext E, fr, kp.ext E, ⟨k1, hS, hk⟩, hC.1, i4.trans hC⟩ E hC A1 A2 A3 A4 hne)
def CtrW (l : Launch) (Z : State) (EL : List (String × Nat)) (y : MethodName) (bytes : ByteArray) (maxL : Nat) (ret : Option FieldType) (xs : List Jvm.Cond) (rm : Room) (as' : Array Value) (h0 : Heap) (wy : List Addr) (Q : Option Value → Heap → Prop) : Prop :=
  MetFree l y (head1 (Jvm.Cond.code y bytes maxL ret :: xs) rm) (fun a U => a = as' ∧ Z.Warmed39 U.vm ∧ U.heap = h0 ∧ CHv Z EL U.vm h0) (fun _ _ _ _ _ => True) (fun _ U o U' => ∃ v L, o = .returned v ∧ (Fr Z.heap.size L ∧ Keep h0 U'.heap wy ∧ Q v U'.heap) ∧ CHr Z EL U.vm U.heap U'.vm U'.heap ∧ ReturnedEndW U o U' L rm.cells rm.slots)
def PW (s : State) (Z : State) (EL : List (String × Nat)) (below : List Frame) (h0 : Heap) (wy : List Addr) (rm : Room) (Q : Option Value → Heap → Prop) (s₂ : State) (o : Outcome) : Prop := s₂.status = .running ∧ Ended s₂ below o ∧ ∃ v L, o = .returned v ∧ (Fr Z.heap.size L ∧ Keep h0 s₂.heap wy ∧ Q v s₂.heap) ∧ CHr Z EL s.vm s.heap s₂.vm s₂.heap ∧ ReturnedEndW s o s₂ L rm.cells rm.slots
theorem CtrW.intro {y : MethodName} {bytes : ByteArray} {maxL : Nat} {ret : Option FieldType} {xs : List Jvm.Cond} {rm : Room} {as' : Array Value} {h0 : Heap} {wy : List Addr} {Q : Option Value → Heap → Prop} {L0 : Array Slot} (hx : plainFor y = true) (O : Old Z Z.heap.size h0) (hef : ∀ m, entryFrame m as' maxL = mkF m 0 L0 [])
    (body : ∀ (p : Program) (e : Env) (s : State) (m : MethodId) (below : List Frame) (meth : Method) (c : Code) (T : State) (V : Vm), c.code = bytes → c.maxLocals = maxL → meth.sig.returnType = ret → meth.locks = false → meth.name = y.name → Wk p l e rm (s.setVm V) m as' below meth c y.cls Z h0 wy (IW s Z EL V) T h0 [] 0 0 → Gl p.tables e below (PW s Z EL below h0 wy rm Q) T m 0 L0 []) :
    CtrW l Z EL y bytes maxL ret xs rm as' h0 wy Q := by
  refine MetFree.of_bodySF hx hisR ?_
  intro p e s m args below meth c s₁ Bd hml hP hK
  obtain ⟨rfl, hZ, hh, hH⟩ := hP
  have e0 : s₁.heap = h0 := by rw [← hh, Bd.state]; rfl
  have hr : CHr Z EL s.vm s.heap s.vm h0 := by rw [hh]; exact CHr.refl hH
  have X : Stand p l e rm (s.setVm s.vm) m args below meth c s₁ [] 0 0 := Stand.of_body Bd
  obtain ⟨s2, o, g1, g2, g3, g4⟩ := body p e s m below meth c s₁ s.vm Bd.bytes hml Bd.returns Bd.notSynchronized (name_of_methodNamed Bd.named Bd.method).1 ⟨X, Bd.exec, e0, hZ, findClass_of_methodNamed Bd.named, O, Fr.nil _, Keep.refl _ _, ⟨0, (State.WarmedH.refl s).since _, Nat.zero_le _⟩, hH, hr⟩
  exact ⟨s2, o, castTop (hef m) g1, g2, g3, g4⟩
abbrev BackSQ (l : Launch) (R : Room) (p : Program) (e : Env) (below : List Frame) (s : State) (args : Array Value) (y : MethodName) (len Wd : Nat) (as' : Array Value) (h : Heap) (kc ks : Nat) (Q : Option Value → Heap → List Loc → Prop) (Z : State) (EL : List (String × Nat)) (V : Vm) : Prop :=
  BackS l R p e below s args y len Wd (fun A a => a = as' ∧ A.U.heap = h ∧ A.cells + kc ≤ R.cells ∧ A.slots + ks ≤ R.slots) (fun A _ v B => ∃ L, Q v B.U.heap L ∧ B.locs = A.locs ++ L ∧ B.cells = A.cells + kc ∧ B.slots = A.slots + ks ∧ CHr Z EL V h B.U.vm B.U.heap)
theorem CtrW.back {y : MethodName} {bytes : ByteArray} {maxL : Nat} {ret : Option FieldType} {rm : Room} {as' : Array Value} {wy : List Addr} {Q : Option Value → Heap → Prop} {len Wd : Nat} (W : Wk p l e R (s.setVm V) m args below meth c own Z hb ws (IW s Z EL V) T h locs cells slots) (C : CtrW l Z EL y bytes maxL ret [] rm as' h wy Q) (wc : (Cond.code y bytes maxL ret).before a0 Z = true) (wz : (Cond.initialized y.cls).before a0 Z = true)
    (hf : rm.frames + 1 ≤ R.frames) (hl : Wd + (maxL + 11) + rm.locals ≤ R.locals) (hEL : EW Z a0 EL) : BackSQ l R p e below (s.setVm V) args y len Wd as' h rm.cells rm.slots (fun v hh L => Fr Z.heap.size L ∧ Keep h hh wy ∧ Q v hh) Z EL V :=
  backOfSH (s := s) (Q := fun v hh L => Fr Z.heap.size L ∧ Keep h hh wy ∧ Q v hh) C W.2.2.2.1 wc wz hf hl hEL W.inv.2.1
theorem o_afterW (W : Wk p l e R (s.setVm V) m args below meth c own Z hb ws (IW s Z EL V) T h locs cells slots) {B : Pt} {v : Option Value} {kc ks : Nat} {Q : Option Value → Heap → List Loc → Prop} {wy : List Addr} (X' : Stand p l e R ((s.setVm V).setVm B.U.vm) m args below meth c B.U B.locs B.cells B.slots) (hS : (s.setVm V).Since B.U.vm B.U.heap.size) (hgr : T.heap.size ≤ B.U.heap.size) (hpost : ∃ L, Q v B.U.heap L ∧ B.locs = locs ++ L ∧ B.cells = cells + kc ∧ B.slots = slots + ks ∧ CHr Z EL V h B.U.vm B.U.heap)
    (hq : ∀ v hh L, Q v hh L → Fr Z.heap.size L ∧ Keep h hh wy) (hg : ∀ x ∈ wy, Z.heap.size ≤ x ∧ (x ∈ ws ∨ hb.size ≤ x)) :
    ∃ L, Q v B.U.heap L ∧ Keep h B.U.heap wy ∧ CHr Z EL V h B.U.vm B.U.heap ∧ Wk p l e R (s.setVm B.U.vm) m args below meth c own Z hb ws (IW s Z EL B.U.vm) B.U B.U.heap (locs ++ L) (cells + kc) (slots + ks) := by
  obtain ⟨X, hx, eT, hZ, ho, o, fr, kp, ⟨k0, i1, i2⟩, i3, i4⟩ := W
  obtain ⟨⟨U, lo, kc', ks'⟩, rfl⟩ : ∃ B', B' = B := ⟨_, rfl⟩
  obtain ⟨L', q, e1, e2, e3, hC⟩ := hpost
  have e1 : lo = locs ++ L' := e1
  have e2 : kc' = cells + kc := e2
  have e3 : ks' = slots + ks := e3
  subst e1 e2 e3
  obtain ⟨f, k⟩ := hq _ _ _ q
  obtain ⟨Y, hS2, hZ2, ho2⟩ := rebS (n1 := T.heap.size) i1 (by rw [eT]; exact i2) X' hS hgr hZ ho
  exact ⟨L', q, k, hC, Y, hx, rfl, hZ2, ho2, o.keep k (fun x hx => (hg x hx).1), fr.app f, kp.trans k (fun x hx => (hg x hx).2), ⟨_, hS2, Nat.le_refl _⟩, hC.1, i4.trans hC⟩
theorem o_staticW (W : Wk p l e R (s.setVm V) m args below meth c own Z hb ws (IW s Z EL V) T h locs cells slots) {index : Nat} {y : MethodName} {bytes : ByteArray} {maxL : Nat} {ret : Option FieldType} (w1 : (Cond.methodLink own index y).before a0 Z = true) (w2 : (Cond.static y).before a0 Z = true) (w3 : (Cond.initialized y.cls).before a0 Z = true) (w4 : (Cond.code y bytes maxL ret).before a0 Z = true)
    (hy : y.cls ≠ "java/lang/invoke/MethodHandle" ∧ y.cls ≠ "java/lang/invoke/VarHandle") {Wd kc ks : Nat} {Q : Option Value → Heap → List Loc → Prop} {argsL : List Value} (B : BackSQ l R p e below (s.setVm V) args y 3 Wd argsL.toArray h kc ks Q Z EL V) (hml : L.size = c.maxLocals)
    (hlen : ∀ sig, parseMethodDescriptor y.desc = some sig → argsL.length = sig.parameters.length) {S0 : List Value} (hS : S0 = argsL.reverse ++ S) (hW : 2 * 0 + (S.map fun v => v.category).sum ≤ Wd) (pc' : Nat) (hd : decode c.code pc = .ok (.invokestatic index, 3)) (hp : pc + 3 = pc')
    (hc' : cells + kc = cells') (hs' : slots + ks = slots') (hc : cells' ≤ R.cells) (hs : slots' ≤ R.slots) {wy : List Addr} (hq : ∀ v hh L, Q v hh L → Fr Z.heap.size L ∧ Keep h hh wy) (hg : ∀ x ∈ wy, Z.heap.size ≤ x ∧ (x ∈ ws ∨ hb.size ≤ x))
    (K : ∀ v T' h' V' Lc, Wk p l e R (s.setVm V') m args below meth c own Z hb ws (IW s Z EL V') T' h' (locs ++ Lc) cells' slots' → Keep h h' wy → CHr Z EL V h V' h' → Q v h' Lc → Gl p.tables e below P T' m pc' L (v.toList ++ S)) : Gl p.tables e below P T m pc L S0 := by
  subst hp hc' hs' hS
  obtain ⟨v, vm₁, B', -, X', hS, hgr, hpost, st⟩ := callSS W.1 W.2.1 W.2.2.2.2.1 (mvT W.2.2.2.1 w1) (mvT W.2.2.2.1 w2) (mvT W.2.2.2.1 w3) (mvT W.2.2.2.1 w4) hy B (g := mkF m pc L (argsL.reverse ++ S)) rfl hml hlen rfl hW hd (fun _ _ => ⟨rfl, W.2.2.1, hc, hs⟩)
  obtain ⟨Lc, q, k, hC, W'⟩ := o_afterW W X' hS hgr hpost hq hg
  exact Gl.tr st (K v _ _ _ Lc W' k hC q)
theorem o_specialW (W : Wk p l e R (s.setVm V) m args below meth c own Z hb ws (IW s Z EL V) T h locs cells slots) {index : Nat} {y : MethodName} {bytes : ByteArray} {maxL : Nat} (hy1 : y.name = "<init>") (w1 : (Cond.methodLink own index y).before a0 Z = true) (w2 : (Cond.instanceMethod y).before a0 Z = true) (w4 : (Cond.code y bytes maxL none).before a0 Z = true)
    (hy : y.cls ≠ "java/lang/invoke/MethodHandle" ∧ y.cls ≠ "java/lang/invoke/VarHandle") {Wd kc ks : Nat} {Q : Option Value → Heap → List Loc → Prop} {a : Addr} {argsL : List Value} (B : BackSQ l R p e below (s.setVm V) args y 3 Wd (.ref a :: argsL).toArray h kc ks Q Z EL V) (hml : L.size = c.maxLocals)
    (hlen : ∀ sig, parseMethodDescriptor y.desc = some sig → argsL.length = sig.parameters.length) {S0 : List Value} (hS : S0 = argsL.reverse ++ .ref a :: S) (hW : 2 * 0 + (S.map fun v => v.category).sum ≤ Wd) (pc' : Nat) (hd : decode c.code pc = .ok (.invokespecial index, 3)) (hp : pc + 3 = pc')
    (hc' : cells + kc = cells') (hs' : slots + ks = slots') (hc : cells' ≤ R.cells) (hs : slots' ≤ R.slots) {wy : List Addr} (hq : ∀ v hh L, Q v hh L → Fr Z.heap.size L ∧ Keep h hh wy) (hg : ∀ x ∈ wy, Z.heap.size ≤ x ∧ (x ∈ ws ∨ hb.size ≤ x))
    (K : ∀ v T' h' V' Lc, Wk p l e R (s.setVm V') m args below meth c own Z hb ws (IW s Z EL V') T' h' (locs ++ Lc) cells' slots' → Keep h h' wy → CHr Z EL V h V' h' → Q v h' Lc → Gl p.tables e below P T' m pc' L (v.toList ++ S)) : Gl p.tables e below P T m pc L S0 := by
  subst hp hc' hs' hS
  obtain ⟨v, vm₁, B', -, X', hS, hgr, hpost, st⟩ := W.1.specialBackS W.2.1 hy1 W.2.2.2.2.1 (mvT W.2.2.2.1 w1) (mvT W.2.2.2.1 w2) (mvT W.2.2.2.1 w4) hy B (g := mkF m pc L (argsL.reverse ++ .ref a :: S)) rfl hml (Steps.refl _) hlen rfl hW hd (fun _ _ => ⟨rfl, W.2.2.1, hc, hs⟩)
  obtain ⟨Lc, q, k, hC, W'⟩ := o_afterW W X' hS hgr hpost hq hg
  exact Gl.tr st (K v _ _ _ Lc W' k hC q)
theorem o_leaveWW {Q : Option Value → Heap → Prop} (W : Wk p l e R (s.setVm V) m args below meth c own Z hb ws (IW s Z EL V) T h locs cells slots) (hEL : EW Z a0 EL) (hlk : meth.locks = false) {v : Option Value} (hv : meth.sig.returnType = none → v = none) (hq : Q v h) (hc : cells ≤ R.cells) (hs : slots ≤ R.slots) (st : ∀ fs, (∀ (f : JFrame) (acts : List Action), f.method = m → f.locked = none → f.entered = [] → (doReturn e (T.setTop f) acts v).1 = T.setFrames fs) → Steps p.tables e below (T.setTop (mkF m pc L S)) (T.setFrames fs)) :
    Gl p.tables e below (PW s Z EL below hb ws R Q) T m pc L S := by
  obtain ⟨X, hx, eT, hZ, ho, o, fr, kp, ⟨k0, i1, i2⟩, i3, i4⟩ := W
  obtain ⟨fs, hr, hrun, hended, a1, a2, a3, a4⟩ := X.leaveW i1 (by rw [eT]; exact i2) (v := v) hv
  have eh : (T.setFrames fs).heap = h := eT
  have hA := CHv.at X hZ hEL i3
  exact ⟨_, _, st fs hr, hrun, hended, v, locs, rfl, ⟨fr, by rw [eh]; exact kp, by rw [eh]; exact hq⟩, by rw [eh]; exact i4.trans hA, a1, a2, a3, a4.mono hc hs⟩
theorem o_retNW (W : Wk p l e R (s.setVm V) m args below meth c own Z hb ws (IW s Z EL V) T h locs cells slots) (hEL : EW Z a0 EL) (hlk : meth.locks = false) {Q : Option Value → Heap → Prop} {z z' : Int32} {t : FieldType} (hret : meth.sig.returnType = some t) (ht : t = .boolean ∨ t = .byte ∨ t = .char ∨ t = .short) (hz : nar t z = z') (hd : decode c.code pc = .ok (.ireturn, 1)) (hc : cells ≤ R.cells) (hs : slots ≤ R.slots) (hq : Q (some (.int z')) h) : Gl p.tables e below (PW s Z EL below hb ws R Q) T m pc L (.int z :: S) := by
  subst hz
  exact o_leaveWW W hEL hlk (fun q => by rw [hret] at q; cases q) hq hc hs fun fs hr => retN W.1 W.2.1 hret ht hd hr
theorem o_retAW (W : Wk p l e R (s.setVm V) m args below meth c own Z hb ws (IW s Z EL V) T h locs cells slots) (hEL : EW Z a0 EL) (hlk : meth.locks = false) {Q : Option Value → Heap → Prop} {t : FieldType} {v : Value} (hret : meth.sig.returnType = some t) (ht : t.isReference = true) (hv : v.isRef = true) (hd : decode c.code pc = .ok (.areturn, 1)) (hc : cells ≤ R.cells) (hs : slots ≤ R.slots) (hq : Q (some v) h) : Gl p.tables e below (PW s Z EL below hb ws R Q) T m pc L (v :: S) :=
  o_leaveWW W hEL hlk (fun q => by rw [hret] at q; cases q) hq hc hs fun fs hr => retOut W.1 W.2.1 hret (by cases v <;> first | (cases hv; done) | (cases t <;> first | (cases ht; done) | rfl)) (Or.inr (Or.inr (Or.inr (Or.inr ⟨rfl, ht, hv⟩)))) hd hr
theorem o_ret0W (W : Wk p l e R (s.setVm V) m args below meth c own Z hb ws (IW s Z EL V) T h locs cells slots) (hEL : EW Z a0 EL) (hlk : meth.locks = false) {Q : Option Value → Heap → Prop} (hret : meth.sig.returnType = none) (hd : decode c.code pc = .ok (.return_, 1)) (hc : cells ≤ R.cells) (hs : slots ≤ R.slots) (hq : Q none h) : Gl p.tables e below (PW s Z EL below hb ws R Q) T m pc L [] :=
  o_leaveWW W hEL hlk (fun _ => rfl) hq hc hs fun fs hr => W.1.returnOut W.2.1 hret hd hr
end OwnWide
section OwnMore
variable {p : Program} {l : Launch} {e : Env} {R : Room} {s : State} {m : MethodId} {args : Array Value} {below : List Frame} {meth : Method} {c : Code} {T : State} {locs : List Loc} {cells slots cells' slots' : Nat} {Z : State} {a0 : Array Value} {h h' hb : Heap} {ws : List Addr} {own : String} {I : Heap → Prop} {P : State → Outcome → Prop} {pc pc' : Nat} {L L' : Array Slot} {S : List Value}
def MirW (Z : State) (C : String) (a : Addr) : Prop := ∃ (c : ClassId) (k : Class), Z.vm.findClass C = some c ∧ Z.vm.classes[c]? = some k ∧ k.mirror = some a
end OwnMore

abbrev HW (Z : State) (a0 : Array Value) : Prop := ∀ d ∈ tables_1, d.before a0 Z = true
theorem wa {Z : State} {a0 : Array Value} (hw : HW Z a0) (i : Nat) {c : Cond} (h : tables_1[i]? = some c) : c.before a0 Z = true := hw _ (List.mem_of_getElem? h)
theorem qf {Z : State} {h : Heap} {wy : List Addr} {Q : Option Value → Heap → Prop} : ∀ (v : Option Value) (hh : Heap) (L : List Loc), (Fr Z.heap.size L ∧ Keep h hh wy ∧ Q v hh) → Fr Z.heap.size L ∧ Keep h hh wy := fun _ _ _ q => ⟨q.1, q.2.1⟩
theorem tri {A : Heap → Prop} : ∀ h : Heap, A h → True := fun _ _ => trivial
theorem m0 {x : Addr} {ws : List Addr} {P : Prop} : x ∈ x :: ws ∨ P := Or.inl List.mem_cons_self
abbrev vi (x : Int32) : Slot := .val (.int x)
abbrev vr (a : Addr) : Slot := .val (.ref a)
abbrev un : Slot := .unset
section OwnC
variable {p : Program} {l : Launch} {e : Env} {R : Room} {s : State} {m : MethodId} {args : Array Value} {below : List Frame} {meth : Method} {c : Code} {T : State} {locs : List Loc} {cells slots : Nat} {Z : State} {a0 : Array Value} {h hb : Heap} {ws : List Addr} {own : String} {I : Heap → Prop} {P : State → Outcome → Prop} {pc : Nat} {L : Array Slot}
theorem o_staticC (W : Wk p l e R s m args below meth c own Z hb ws I T h locs cells slots) {index : Nat} {y : MethodName} {bytes : ByteArray} {maxL : Nat} {ret : Option FieldType} (w1 : (Cond.methodLink own index y).before a0 Z = true) (w2 : (Cond.static y).before a0 Z = true) (w3 : (Cond.initialized y.cls).before a0 Z = true) (w4 : (Cond.code y bytes maxL ret).before a0 Z = true)
    (hy : y.cls ≠ "java/lang/invoke/MethodHandle" ∧ y.cls ≠ "java/lang/invoke/VarHandle") {rm : Room} {wy : List Addr} {Q : Option Value → Heap → Prop} {argsL : List Value} (Ct : CtrN l Z y bytes maxL ret [] rm argsL.toArray h wy Q) (Wd : Nat) (cells' slots' : Nat) (hz : rm.frames + 1 ≤ R.frames ∧ Wd + (maxL + 11) + rm.locals ≤ R.locals ∧ cells' ≤ R.cells ∧ slots' ≤ R.slots) (hml : L.size = c.maxLocals)
    (hlen : ∀ sig, parseMethodDescriptor y.desc = some sig → argsL.length = sig.parameters.length) {S0 : List Value} (S : List Value) (hS : S0 = argsL.reverse ++ S) (hW : 2 * 0 + (S.map fun v => v.category).sum = Wd) (pc' : Nat) (hd : decode c.code pc = .ok (.invokestatic index, 3)) (hp : pc + 3 = pc')
    (hc' : cells + rm.cells = cells') (hs' : slots + rm.slots = slots') (hg : ∀ x ∈ wy, Z.heap.size ≤ x ∧ (x ∈ ws ∨ hb.size ≤ x)) (hI : ∀ h', Keep h h' wy → I h')
    (K : ∀ v T' h' Lc, Wk p l e R s m args below meth c own Z hb ws I T' h' (locs ++ Lc) cells' slots' → Keep h h' wy → (Fr Z.heap.size Lc ∧ Keep h h' wy ∧ Q v h') → Gl p.tables e below P T' m pc' L (v.toList ++ S)) : Gl p.tables e below P T m pc L S0 := o_static W w1 w2 w3 w4 hy (CtrN.back (Wd := Wd) W Ct w4 w3 hz.1 hz.2.1) hml hlen hS (Nat.le_of_eq hW) pc' hd hp hc' hs' hz.2.2.1 hz.2.2.2 qf hg hI K
theorem o_specialC (W : Wk p l e R s m args below meth c own Z hb ws I T h locs cells slots) {index : Nat} {y : MethodName} {bytes : ByteArray} {maxL : Nat} (hy1 : y.name = "<init>") (w1 : (Cond.methodLink own index y).before a0 Z = true) (w2 : (Cond.instanceMethod y).before a0 Z = true) (w4 : (Cond.code y bytes maxL none).before a0 Z = true)
    (hy : y.cls ≠ "java/lang/invoke/MethodHandle" ∧ y.cls ≠ "java/lang/invoke/VarHandle") {rm : Room} {wy : List Addr} {Q : Option Value → Heap → Prop} {a : Addr} {argsL : List Value} (wz : (Cond.initialized y.cls).before a0 Z = true) (Ct : CtrN l Z y bytes maxL none [] rm (.ref a :: argsL).toArray h wy Q) (Wd : Nat) (cells' slots' : Nat) (hz : rm.frames + 1 ≤ R.frames ∧ Wd + (maxL + 11) + rm.locals ≤ R.locals ∧ cells' ≤ R.cells ∧ slots' ≤ R.slots) (hml : L.size = c.maxLocals)
    (hlen : ∀ sig, parseMethodDescriptor y.desc = some sig → argsL.length = sig.parameters.length) {S0 : List Value} (S : List Value) (hS : S0 = argsL.reverse ++ .ref a :: S) (hW : 2 * 0 + (S.map fun v => v.category).sum = Wd) (pc' : Nat) (hd : decode c.code pc = .ok (.invokespecial index, 3)) (hp : pc + 3 = pc')
    (hc' : cells + rm.cells = cells') (hs' : slots + rm.slots = slots') (hg : ∀ x ∈ wy, Z.heap.size ≤ x ∧ (x ∈ ws ∨ hb.size ≤ x)) (hI : ∀ h', Keep h h' wy → I h')
    (K : ∀ v T' h' Lc, Wk p l e R s m args below meth c own Z hb ws I T' h' (locs ++ Lc) cells' slots' → Keep h h' wy → (Fr Z.heap.size Lc ∧ Keep h h' wy ∧ Q v h') → Gl p.tables e below P T' m pc' L (v.toList ++ S)) : Gl p.tables e below P T m pc L S0 := o_special W hy1 w1 w2 w4 hy (CtrN.back (Wd := Wd) W Ct w4 wz hz.1 hz.2.1) hml hlen hS (Nat.le_of_eq hW) pc' hd hp hc' hs' hz.2.2.1 hz.2.2.2 qf hg hI K
theorem o_virtualC (W : Wk p l e R s m args below meth c own Z hb ws I T h locs cells slots) {index : Nat} {C : String} {y z : MethodName} (w1 : (Cond.methodLink own index y).before a0 Z = true) (w2 : (Cond.declares y).before a0 Z = true) (hnf : NotFace s y) (w3 : (Cond.selects C y z).before a0 Z = true) (w4 : (Cond.instanceMethod z).before a0 Z = true)
    (hy : y.cls ≠ "java/lang/invoke/MethodHandle" ∧ y.cls ≠ "java/lang/invoke/VarHandle") {rm : Room} {wy : List Addr} {Q : Option Value → Heap → Prop} {a : Addr} (E : Exa Z h a C) {argsL : List Value} {bytes : ByteArray} {maxL : Nat} {ret : Option FieldType} (wc : (Cond.code z bytes maxL ret).before a0 Z = true) (wz : (Cond.initialized z.cls).before a0 Z = true) (Ct : CtrN l Z z bytes maxL ret [] rm (.ref a :: argsL).toArray h wy Q) (Wd : Nat) (cells' slots' : Nat) (hz : rm.frames + 1 ≤ R.frames ∧ Wd + (maxL + 11) + rm.locals ≤ R.locals ∧ cells' ≤ R.cells ∧ slots' ≤ R.slots) (hml : L.size = c.maxLocals)
    (hlen : ∀ sig, parseMethodDescriptor y.desc = some sig → argsL.length = sig.parameters.length) {S0 : List Value} (S : List Value) (hS : S0 = argsL.reverse ++ .ref a :: S) (hW : 2 * 0 + (S.map fun v => v.category).sum = Wd) (pc' : Nat) (hd : decode c.code pc = .ok (.invokevirtual index, 3)) (hp : pc + 3 = pc')
    (hc' : cells + rm.cells = cells') (hs' : slots + rm.slots = slots') (hg : ∀ x ∈ wy, Z.heap.size ≤ x ∧ (x ∈ ws ∨ hb.size ≤ x)) (hI : ∀ h', Keep h h' wy → I h')
    (K : ∀ v T' h' Lc, Wk p l e R s m args below meth c own Z hb ws I T' h' (locs ++ Lc) cells' slots' → Keep h h' wy → (Fr Z.heap.size Lc ∧ Keep h h' wy ∧ Q v h') → Gl p.tables e below P T' m pc' L (v.toList ++ S)) : Gl p.tables e below P T m pc L S0 := o_virtual W w1 w2 hnf w3 w4 hy E (CtrN.back (Wd := Wd) W Ct wc wz hz.1 hz.2.1) hml hlen hS (Nat.le_of_eq hW) pc' hd hp hc' hs' hz.2.2.1 hz.2.2.2 qf hg hI K
end OwnC
abbrev iZ : Value := .int 0
abbrev s0 : String := "java/lang/StringUTF16"
abbrev s1 : String := "java/lang/String"
abbrev s2 : String := "$assertionsDisabled"
abbrev s3 : String := "HI_BYTE_SHIFT"
abbrev s4 : String := "LO_BYTE_SHIFT"
abbrev s5 : String := "COMPACT_STRINGS"
abbrev s6 : String := "jdk/internal/util/Preconditions"
abbrev s7 : String := "SIOOBE_FORMATTER"
abbrev s8 : String := "Ljava/util/function/BiFunction;"
abbrev mn0 : MethodName := ⟨"java/lang/String", "length", "()I"⟩
abbrev mn1 : MethodName := ⟨"java/lang/String", "codePointAt", "(I)I"⟩
abbrev mn2 : MethodName := ⟨"com/example/countersign/countersign/Utf8ComparePinLaw", "hi", "(I)C"⟩
abbrev mn3 : MethodName := ⟨"com/example/countersign/countersign/Utf8ComparePinLaw", "lo", "(I)C"⟩
abbrev mn4 : MethodName := ⟨"java/lang/Character", "charCount", "(I)I"⟩
abbrev mn5 : MethodName := ⟨"java/lang/Character", "isHighSurrogate", "(C)Z"⟩
abbrev mn6 : MethodName := ⟨"java/lang/Character", "isLowSurrogate", "(C)Z"⟩
abbrev mn7 : MethodName := ⟨"com/example/countersign/countersign/Utf8ComparePinLaw", "toCp", "(IZ)I"⟩
abbrev mn8 : MethodName := ⟨"java/lang/String", "<init>", "([CIILjava/lang/Void;)V"⟩
abbrev mn9 : MethodName := ⟨"java/lang/String", "<init>", "([C)V"⟩
abbrev mn10 : MethodName := ⟨"java/lang/String", "coder", "()B"⟩
abbrev mn11 : MethodName := ⟨"com/example/countersign/countersign/Utf8ComparePinLaw", "str", "(III)Ljava/lang/String;"⟩
abbrev mn12 : MethodName := ⟨"com/example/countersign/countersign/Utf8ComparePinLaw", "cmp", "(II)I"⟩
abbrev mn13 : MethodName := ⟨"java/lang/Integer", "compare", "(II)I"⟩
abbrev mn14 : MethodName := ⟨"com/example/countersign/countersign/Utf8", "compare", "(Ljava/lang/String;Ljava/lang/String;)I"⟩
abbrev mn15 : MethodName := ⟨"com/example/countersign/countersign/Utf8ComparePinLaw", "sign", "(I)I"⟩
abbrev mn16 : MethodName := ⟨"java/lang/StringUTF16", "compress", "([CI[BII)I"⟩
abbrev mn17 : MethodName := ⟨"java/lang/StringUTF16", "compress", "([CII)[B"⟩
abbrev mn18 : MethodName := ⟨"java/lang/StringUTF16", "coderFromArrayLen", "([BI)B"⟩
abbrev mn19 : MethodName := ⟨"java/lang/String", "isLatin1", "()Z"⟩
abbrev mn20 : MethodName := ⟨"jdk/internal/util/Preconditions", "checkIndex", "(IILjava/util/function/BiFunction;)I"⟩
abbrev mn21 : MethodName := ⟨"java/lang/String", "checkIndex", "(II)V"⟩
abbrev mn22 : MethodName := ⟨"java/lang/StringUTF16", "newBytesLength", "(I)I"⟩
abbrev mn23 : MethodName := ⟨"java/lang/StringUTF16", "newBytesFor", "(I)[B"⟩
abbrev mn24 : MethodName := ⟨"java/lang/StringUTF16", "putChar", "([BII)V"⟩
abbrev mn25 : MethodName := ⟨"java/lang/StringUTF16", "toBytes", "([CII)[B"⟩
abbrev mn26 : MethodName := ⟨"java/lang/StringUTF16", "getChar", "([BI)C"⟩
abbrev mn27 : MethodName := ⟨"java/lang/StringUTF16", "codePointAt", "([BIIZ)I"⟩
abbrev mn28 : MethodName := ⟨"java/lang/StringUTF16", "codePointAt", "([BII)I"⟩
abbrev mn29 : MethodName := ⟨"java/lang/Character", "toCodePoint", "(CC)I"⟩
abbrev dc (b : ByteArray) (pc : Nat) (i : Instr) (n : Nat) : Prop := decode b pc = .ok (i, n)
abbrev c0_ : ByteArray := method_4_code
abbrev c1_ : ByteArray := method_7_code
abbrev c2_ : ByteArray := jdk_42_method_3_code
abbrev c3_ : ByteArray := jdk_42_method_149_code
abbrev c4_ : ByteArray := method_3_code
abbrev c5_ : ByteArray := prog_10_method_4_code
abbrev c6_ : ByteArray := jdk_42_method_54_code
abbrev c7_ : ByteArray := jdk_42_method_152_code
abbrev c8_ : ByteArray := jdk_33_method_40_code
abbrev c9_ : ByteArray := method_2_code
abbrev c10_ : ByteArray := jdk_52_method_16_code
abbrev c11_ : ByteArray := jdk_52_method_21_code
abbrev c12_ : ByteArray := jdk_52_method_15_code
abbrev c13_ : ByteArray := jdk_42_method_57_code
abbrev c14_ : ByteArray := jdk_42_method_154_code
abbrev c15_ : ByteArray := jdk_42_method_155_code
abbrev c16_ : ByteArray := jdk_41_method_11_code
abbrev c17_ : ByteArray := method_5_code
abbrev c18_ : ByteArray := method_6_code
abbrev c19_ : ByteArray := jdk_52_method_14_code
abbrev c20_ : ByteArray := jdk_52_method_2_code
abbrev c21_ : ByteArray := jdk_52_method_3_code
abbrev c22_ : ByteArray := jdk_52_method_4_code
abbrev c23_ : ByteArray := jdk_52_method_5_code
abbrev c24_ : ByteArray := jdk_89_method_18_code
abbrev c25_ : ByteArray := jdk_52_method_8_code
abbrev c26_ : ByteArray := jdk_52_method_7_code
abbrev c27_ : ByteArray := jdk_89_method_14_code
abbrev c28_ : ByteArray := jdk_89_method_15_code
abbrev c29_ : ByteArray := jdk_89_method_19_code
set_option maxRecDepth 65536
set_option maxHeartbeats 40000000

def own_b (x : Int32) : Prop := ¬ x < 0 ∧ ¬ (255 : Int32) < x
def own_01 (x : Int32) : Prop := x = 0 ∨ x = 1
def own_ok (cs : List Int32) : Prop := (∀ c ∈ cs, own_b c) ∧ cs.length ≤ 4000
def own_eq (cs ds : List Int32) : Int32 := if cs = ds then 1 else 0
theorem own_eq01 (cs ds : List Int32) : own_01 (own_eq cs ds) := by unfold own_eq own_01; split <;> simp
theorem own_eq_symm (cs ds : List Int32) : own_eq cs ds = own_eq ds cs := by
  unfold own_eq
  by_cases h : cs = ds
  · rw [if_pos h, if_pos h.symm]
  · rw [if_neg h, if_neg (Ne.symm h)]
theorem own_lcs (x : Int64) : lcmpW x x = 0 := by simp [lcmpW]
theorem own_eqne (cs : List Int32) : ¬ own_eq cs cs = 0 := by unfold own_eq; rw [if_pos rfl]; decide
theorem own_ite0 {P : Prop} [Decidable P] (h : ¬ P) : (0 : Int32) = if P then 1 else 0 := (if_neg h).symm
theorem own_ite1 {P : Prop} [Decidable P] (h : P) : (1 : Int32) = if P then 1 else 0 := (if_pos h).symm
theorem own_b255 (x : Int32) : own_b (x &&& 255) := by
  have h := c_andS x 255
  have h1 : (x &&& 255).toBitVec.toNat ≤ 255 := by
    rw [Int32.toBitVec_and, BitVec.toNat_and]; exact Nat.and_le_right
  have h0 := h.2.2 (by decide)
  have e : (x &&& 255).toInt = (x &&& 255).toBitVec.toNat := by
    show (x &&& 255).toBitVec.toInt = _
    rw [BitVec.toInt_eq_toNat_cond, if_pos (by omega)]
  refine ⟨?_, ?_⟩
  · rw [Int32.lt_iff_toInt_lt]; show ¬ _ < (0 : Int); omega
  · rw [Int32.lt_iff_toInt_lt]; show ¬ (255 : Int) < _; omega
theorem own_bnat {x : Int32} (h : own_b x) : x.toBitVec.toNat ≤ 255 ∧ x.toInt = x.toBitVec.toNat := by
  obtain ⟨h0, h1⟩ := h
  rw [Int32.lt_iff_toInt_lt] at h0 h1
  have e0 : (0 : Int32).toInt = 0 := rfl
  have e1 : (255 : Int32).toInt = 255 := rfl
  have := x.toBitVec.isLt
  have e : x.toInt = x.toBitVec.toInt := rfl
  have e2 : x.toBitVec.toInt = if 2 * x.toBitVec.toNat < 2 ^ 32 then (x.toBitVec.toNat : Int) else (x.toBitVec.toNat : Int) - ((2 ^ 32 : Nat) : Int) := BitVec.toInt_eq_toNat_cond x.toBitVec
  split at e2 <;> omega
theorem own_i2c {x : Int32} (h : own_b x) : x.toUInt32.toUInt16.toUInt32.toInt32 = x := by
  obtain ⟨h1, -⟩ := own_bnat h
  apply Int32.toBitVec_inj.mp
  apply BitVec.eq_of_toNat_eq
  show (BitVec.setWidth 32 (BitVec.setWidth 16 x.toBitVec)).toNat = _
  simp only [BitVec.toNat_setWidth]
  omega
theorem own_fitC {x : Int32} (h : own_b x) : fits .char (.int x) = true := by
  have q := fits_nar_char x
  have e : nar .char x = x := own_i2c h
  rw [e] at q; exact q
theorem own_nar01 {x : Int32} (h : own_01 x) : x &&& 1 = x := by rcases h with rfl | rfl <;> decide
theorem own_fit01 {x : Int32} (h : own_01 x) : fits .boolean (.int x) = true := by rcases h with rfl | rfl <;> decide
theorem own_up {cs : List Int32} (h : own_ok cs) : ∀ c ∈ cs, ¬ c < 0 ∧ ¬ (65535 : Int32) < c := fun c hc => by
  obtain ⟨h0, h1⟩ := h.1 c hc
  refine ⟨h0, fun q => h1 ?_⟩
  rw [Int32.lt_iff_toInt_lt] at q ⊢
  have e0 : (65535 : Int32).toInt = 65535 := rfl
  have e1 : (255 : Int32).toInt = 255 := rfl
  omega
theorem own_eqv {v : Option Value} {cs ds : List Int32} (h : (v = some (.int 1) ∧ cs = ds) ∨ (v = some (.int 0) ∧ ¬ cs = ds)) : v = some (.int (own_eq cs ds)) := by
  unfold own_eq
  rcases h with ⟨rfl, h⟩ | ⟨rfl, h⟩
  · rw [if_pos h]
  · rw [if_neg h]
theorem own_b8 (x : Int32) : x.toInt8.toInt32.toInt8.toInt32 = x.toInt8.toInt32 := by simp
theorem own_fit8 (x : Int32) : fits .byte (.int x.toInt8.toInt32) = true := fits_nar_byte x
theorem own_shr8 {x : Int32} (h : own_b x) : (x.toUInt32 >>> ((8 : Int32) &&& 31).toUInt32).toInt32 = 0 := by
  obtain ⟨h1, -⟩ := own_bnat h
  apply Int32.toBitVec_inj.mp
  apply BitVec.eq_of_toNat_eq
  have e : ((8 : Int32) &&& 31).toUInt32 = 8 := by decide
  rw [e]
  show (x.toUInt32 >>> 8).toBitVec.toNat = 0
  rw [UInt32.toBitVec_shiftRight]
  show (x.toBitVec >>> (8 : UInt32).toBitVec.umod 32).toNat = 0
  rw [BitVec.ushiftRight_eq', BitVec.toNat_ushiftRight, show ((8 : UInt32).toBitVec.umod 32).toNat = 8 by decide, Nat.shiftRight_eq_div_pow]
  omega
theorem own_eqS {args : Array Value} {Z : State} {t : Term} {x : Int32} (h : t.eval args Z none [] Z = some (.int x)) : (Jvm.Cond.eq t (.int 0)).value args Z none Z [] = some (decide (x = 0)) := by
  simp [Cond.value, h, Term.eval]
theorem own_same {n : Nat} {L : List Loc} {h hh : Heap} (q : L = [] ∧ hh = h) : Fr n L ∧ Keep h hh [] := by
  obtain ⟨rfl, rfl⟩ := q
  exact ⟨Fr.nil _, Keep.refl _ _⟩
theorem own_wS {Z : State} {a0 : Array Value} (hw : ∀ d ∈ tables_1, d.before a0 Z = true) : ∀ a ∈ Bundle.stringAtoms, a.before a0 Z = true := fun d hd => hw d ((by decide +kernel : ∀ w ∈ Bundle.stringAtoms, w ∈ tables_1) d hd)
theorem own_EL {Z : State} {a0 : Array Value} (hw : ∀ d ∈ tables_1, d.before a0 Z = true) : EW Z a0 consts_1 := (EW.cons (hw _ (List.mem_of_getElem? (i := 24) rfl)) (by decide) EW.nil)
abbrev bH (x : Int32) : Int32 := ((x >>> ((0 : Int32) &&& 31)).toInt8.toInt32)
abbrev bL (x : Int32) : Int32 := ((x >>> ((8 : Int32) &&& 31)).toInt8.toInt32)
abbrev bB (x : Int32) : Int32 := (x.toInt8.toInt32)

def own_3 (n : Int32) : Prop := n = 0 ∨ n = 1 ∨ n = 2
def own_cs2 (n a b : Int32) : List Int32 := if n = 0 then [] else if n = 1 then [a] else [a, b]
theorem own_cs2_0 {n a b : Int32} (h : n = 0) : own_cs2 n a b = [] := by simp [own_cs2, h]
theorem own_cs2_1 {n a b : Int32} (h : n = 1) : own_cs2 n a b = [a] := by subst h; simp [own_cs2]
theorem own_cs2_2 {n a b : Int32} (h0 : ¬ n = 0) (h1 : ¬ n = 1) : own_cs2 n a b = [a, b] := by simp [own_cs2, h0, h1]
theorem own_cs2ok {n a b : Int32} (ha : own_b a) (hb : own_b b) : own_ok (own_cs2 n a b) := by
  unfold own_cs2
  refine ⟨?_, ?_⟩
  · intro x hx
    split at hx
    · cases hx
    · split at hx
      · simp only [List.mem_cons, List.not_mem_nil, or_false] at hx; subst hx; exact ha
      · simp only [List.mem_cons, List.not_mem_nil, or_false] at hx; rcases hx with rfl | rfl <;> assumption
  · repeat' split
    all_goals simp
theorem own_and33 (x : Int32) : own_3 ((x &&& 3) % (3 : Int32)) := by
  have h1 : (x &&& 3).toBitVec.toNat ≤ 3 := by
    rw [Int32.toBitVec_and, BitVec.toNat_and]; exact Nat.and_le_right
  have key : ∀ b : BitVec 32, b.toNat ≤ 3 → b = 0#32 ∨ b = 1#32 ∨ b = 2#32 ∨ b = 3#32 := fun b hb => by
    rcases Nat.lt_or_ge b.toNat 1 with q | q
    · exact Or.inl (BitVec.eq_of_toNat_eq (by simp; omega))
    · rcases Nat.lt_or_ge b.toNat 2 with q | q
      · exact Or.inr (Or.inl (BitVec.eq_of_toNat_eq (by simp; omega)))
      · rcases Nat.lt_or_ge b.toNat 3 with q | q
        · exact Or.inr (Or.inr (Or.inl (BitVec.eq_of_toNat_eq (by simp; omega))))
        · exact Or.inr (Or.inr (Or.inr (BitVec.eq_of_toNat_eq (by simp; omega))))
  have k2 : ∀ y : Int32, y = 0 ∨ y = 1 ∨ y = 2 ∨ y = 3 → own_3 (y % (3 : Int32)) := fun y hy => by
    rcases hy with rfl | rfl | rfl | rfl <;> unfold own_3 <;> decide
  apply k2
  rcases key _ h1 with q | q | q | q
  · exact Or.inl (Int32.toBitVec_inj.mp q)
  · exact Or.inr (Or.inl (Int32.toBitVec_inj.mp q))
  · exact Or.inr (Or.inr (Or.inl (Int32.toBitVec_inj.mp q)))
  · exact Or.inr (Or.inr (Or.inr (Int32.toBitVec_inj.mp q)))
theorem own_exp2 {n k a b d e : Int32} (hn : own_3 n) (hk : own_3 k) : own_eq (own_cs2 n a b) (own_cs2 k d e) = if n = k ∧ (n < 1 ∨ a = d) ∧ (n < 2 ∨ b = e) then 1 else 0 := by
  unfold own_eq
  congr 1
  rcases hn with rfl | rfl | rfl <;> rcases hk with rfl | rfl | rfl <;> simp [own_cs2] <;> decide
theorem own_m8 (v : BitVec 32) : ((v.setWidth 8).signExtend 32 &&& 255#32) = (v &&& 255#32) := by
  apply BitVec.eq_of_getLsbD_eq
  intro i hi
  have h255 : (255#32).getLsbD i = decide (i < 8) := by
    have : (255#32).getLsbD i = (decide (i < 32) && Nat.testBit 255 i) := by simp [BitVec.getLsbD_ofNat]
    rw [this, show (255 : Nat) = 2 ^ 8 - 1 from rfl, Nat.testBit_two_pow_sub_one]
    simp [hi]
  simp only [BitVec.getLsbD_and, h255]
  by_cases h8 : i < 8
  · rw [BitVec.getLsbD_signExtend]
    simp only [h8, hi, decide_true, Bool.true_and, Bool.and_true, if_true, BitVec.getLsbD_setWidth]
  · simp [h8]
theorem own_joinB (b : BitVec 32) (hb : b.toNat ≤ 65535) : (((((((b.sshiftRight 0).setWidth 8).signExtend 32 &&& 255#32) <<< 0) ||| ((((b.sshiftRight 8).setWidth 8).signExtend 32 &&& 255#32) <<< 8)).setWidth 16).setWidth 32) = b := by
  rw [own_m8, own_m8]
  have hm : b.msb = false := by rw [BitVec.msb_eq_decide]; simp; omega
  have s0 : b.sshiftRight 0 = b := by rw [BitVec.sshiftRight_eq_of_msb_false hm]; simp
  have s8 : b.sshiftRight 8 = b >>> 8 := BitVec.sshiftRight_eq_of_msb_false hm
  rw [s0, s8]
  apply BitVec.eq_of_getLsbD_eq
  intro i hi
  have h255 : ∀ j, (255#32).getLsbD j = decide (j < 8) := fun j => by
    have : (255#32).getLsbD j = (decide (j < 32) && Nat.testBit 255 j) := by simp [BitVec.getLsbD_ofNat]
    rw [this, show (255 : Nat) = 2 ^ 8 - 1 from rfl, Nat.testBit_two_pow_sub_one]
    by_cases h : j < 8
    · simp [h]; omega
    · simp [h]
  have hbig : ¬ i < 16 → b.getLsbD i = false := fun h => by
    rw [BitVec.getLsbD]; exact Nat.testBit_lt_two_pow (Nat.lt_of_lt_of_le (Nat.lt_succ_of_le hb) (Nat.pow_le_pow_right (n := 2) (by decide) (Nat.le_of_not_lt h)))
  simp only [BitVec.getLsbD_setWidth, BitVec.getLsbD_or, BitVec.getLsbD_shiftLeft, BitVec.getLsbD_and, h255, BitVec.getLsbD_ushiftRight, hi, decide_true, Bool.true_and]
  by_cases h16 : i < 16
  · by_cases h8 : i < 8
    · simp [h16, h8]
    · have e : 8 + (i - 8) = i := by omega
      have e2 : i - 8 < 8 := by omega
      simp [h16, h8, e, e2]
  · simp [h16, hbig h16]
def own_c (x : Int32) : Prop := ¬ x < 0 ∧ ¬ (65535 : Int32) < x
theorem own_cnat {x : Int32} (h : own_c x) : x.toBitVec.toNat ≤ 65535 ∧ x.toInt = x.toBitVec.toNat := by
  obtain ⟨h0, h1⟩ := h
  rw [Int32.lt_iff_toInt_lt] at h0 h1
  have e0 : (0 : Int32).toInt = 0 := rfl
  have e1 : (65535 : Int32).toInt = 65535 := rfl
  have := x.toBitVec.isLt
  have e : x.toInt = x.toBitVec.toInt := rfl
  have e2 : x.toBitVec.toInt = if 2 * x.toBitVec.toNat < 2 ^ 32 then (x.toBitVec.toNat : Int) else (x.toBitVec.toNat : Int) - ((2 ^ 32 : Nat) : Int) := BitVec.toInt_eq_toNat_cond x.toBitVec
  split at e2 <;> omega
theorem own_s8 (v : BitVec 32) : BitVec.signExtend 8 v = BitVec.setWidth 8 v := by
  apply BitVec.eq_of_getLsbD_eq
  intro i hi
  rw [BitVec.getLsbD_signExtend]
  have h32 : i < 32 := by omega
  simp only [hi, h32, decide_true, Bool.true_and, if_true, BitVec.getLsbD_setWidth]
theorem own_i8 (c : Int32) : (c.toInt8.toInt32).toBitVec = (c.toBitVec.setWidth 8).signExtend 32 := by rw [Int8.toBitVec_toInt32, Int32.toBitVec_toInt8, own_s8]
theorem own_join {c : Int32} (h : own_c c) : ((((((c >>> ((0 : Int32) &&& 31)).toInt8.toInt32) &&& 255) <<< ((0 : Int32) &&& 31)) ||| ((((c >>> ((8 : Int32) &&& 31)).toInt8.toInt32) &&& 255) <<< ((8 : Int32) &&& 31))).toUInt32.toUInt16.toUInt32.toInt32) = c := by
  apply Int32.toBitVec_inj.mp
  have e1 : ∀ x : Int32, (x.toUInt32.toUInt16.toUInt32.toInt32).toBitVec = (x.toBitVec.setWidth 16).setWidth 32 := fun _ => rfl
  have e2 : ∀ x : Int32, (x <<< ((8 : Int32) &&& 31)).toBitVec = x.toBitVec <<< 8 := fun _ => rfl
  have e3 : ∀ x : Int32, (x <<< ((0 : Int32) &&& 31)).toBitVec = x.toBitVec <<< 0 := fun _ => rfl
  have e4 : ∀ x : Int32, (x >>> ((8 : Int32) &&& 31)).toBitVec = x.toBitVec.sshiftRight 8 := fun _ => rfl
  have e5 : ∀ x : Int32, (x >>> ((0 : Int32) &&& 31)).toBitVec = x.toBitVec.sshiftRight 0 := fun _ => rfl
  rw [e1, Int32.toBitVec_or, e2, e3, Int32.toBitVec_and, Int32.toBitVec_and, own_i8, own_i8, e4, e5]
  exact own_joinB _ (own_cnat h).1
theorem own_i2cc {x : Int32} (h : own_c x) : x.toUInt32.toUInt16.toUInt32.toInt32 = x := by
  apply Int32.toBitVec_inj.mp
  apply BitVec.eq_of_toNat_eq
  have e1 : (x.toUInt32.toUInt16.toUInt32.toInt32).toBitVec = (x.toBitVec.setWidth 16).setWidth 32 := rfl
  have := (own_cnat h).1
  rw [e1, BitVec.toNat_setWidth, BitVec.toNat_setWidth]
  omega
theorem own_cc (x : Int32) : own_c (x.toUInt32.toUInt16.toUInt32.toInt32) := by
  have e1 : (x.toUInt32.toUInt16.toUInt32.toInt32).toBitVec = (x.toBitVec.setWidth 16).setWidth 32 := rfl
  have h : (x.toUInt32.toUInt16.toUInt32.toInt32).toBitVec.toNat ≤ 65535 := by
    rw [e1, BitVec.toNat_setWidth, BitVec.toNat_setWidth]; omega
  have e : (x.toUInt32.toUInt16.toUInt32.toInt32).toInt = (x.toUInt32.toUInt16.toUInt32.toInt32).toBitVec.toNat := by
    show (x.toUInt32.toUInt16.toUInt32.toInt32).toBitVec.toInt = _
    rw [BitVec.toInt_eq_toNat_cond, if_pos (by omega)]
  refine ⟨?_, ?_⟩
  · rw [Int32.lt_iff_toInt_lt]; show ¬ _ < (0 : Int); omega
  · rw [Int32.lt_iff_toInt_lt]; show ¬ (65535 : Int) < _; omega
theorem own_fitCc {x : Int32} (h : own_c x) : fits .char (.int x) = true := by
  have q := fits_nar_char x
  have e : nar .char x = x := own_i2cc h
  rw [e] at q; exact q
theorem own_cb {x : Int32} (h : own_c x) (q : ¬ (255 : Int32) < x) : own_b x := ⟨h.1, q⟩
theorem own_lo8 {c : Int32} (h : own_b c) : ((c.toInt8.toInt32) &&& 255) = c := by
  apply Int32.toBitVec_inj.mp
  rw [Int32.toBitVec_and, own_i8]
  show ((c.toBitVec.setWidth 8).signExtend 32 &&& 255#32) = c.toBitVec
  rw [own_m8]
  apply BitVec.eq_of_toNat_eq
  have h1 := (own_bnat h).1
  rw [BitVec.toNat_and]
  show c.toBitVec.toNat &&& (2 ^ 8 - 1) = _
  rw [Nat.and_two_pow_sub_one_eq_mod]
  omega
def All2 (P : Int32 → Int32 → Prop) : List (Int32 × Int32) → Prop
  | [] => True
  | p :: ps => P p.1 p.2 ∧ All2 P ps
theorem al0 {P : Int32 → Int32 → Prop} : All2 P [] := trivial
theorem al1 {P : Int32 → Int32 → Prop} {a b : Int32} {ps : List (Int32 × Int32)} (h : P a b) (t : All2 P ps) : All2 P ((a, b) :: ps) := ⟨h, t⟩
theorem al_h {P : Int32 → Int32 → Prop} {a b : Int32} {ps : List (Int32 × Int32)} (h : All2 P ((a, b) :: ps)) : P a b := h.1
theorem al_t {P : Int32 → Int32 → Prop} {a b : Int32} {ps : List (Int32 × Int32)} (h : All2 P ((a, b) :: ps)) : All2 P ps := h.2
theorem own_Kt {h0 h h' : Heap} (K : Keep h0 h []) (K' : Keep h h' []) : Keep h0 h' [] := K.trans K' (fun _ q => nomatch q)
abbrev Sf0 (l : Launch) (Z : State) (h : Heap) (a : Addr) (x : Int32) : Prop := CtrN l Z mn0 jdk_42_method_54_code 1 (some .int) [] (⟨1, 0, 0, 14⟩ : Room) #[(.ref a)] h [] (fun v h => v = some (.int x))
abbrev Sa (l : Launch) (Z : State) (h : Heap) (a : Addr) (i x : Int32) : Prop := CtrN l Z mn1 jdk_42_method_57_code 3 (some .int) [] (⟨6, 0, 0, 90⟩ : Room) #[(.ref a), (.int i)] h [] (fun v h => v = some (.int x))
def Sv (l : Launch) (Z : State) (h : Heap) (a : Addr) (n : Int32) (q : List (Int32 × Int32)) : Prop := ∀ h2, Old Z Z.heap.size h2 → Keep h h2 [] → Sf0 l Z h2 a n ∧ All2 (Sa l Z h2 a) q
theorem Sv.keep {l : Launch} {Z : State} {h h' : Heap} {a : Addr} {n : Int32} {q : List (Int32 × Int32)} (S : Sv l Z h a n q) (K : Keep h h' []) : Sv l Z h' a n q := fun h2 O K2 => S h2 O (own_Kt K K2)
theorem Sv.ext {l : Launch} {Z : State} {h h' : Heap} {a : Addr} {n : Int32} {q : List (Int32 × Int32)} (S : Sv l Z h a n q) (E : Ext h h') : Sv l Z h' a n q := S.keep ((Keep.refl _ _).ext E)

theorem own_eqR {Z : State} {args : Array Value} {a b : Term} {g : Addr} (h : (Jvm.Cond.eq a b).value args Z none Z [] = some true) (hb : b.eval args Z none [] Z = some (.ref g)) : a.eval args Z none [] Z = some (.ref g) := by
  obtain ⟨x, y, e1, e2, k1, k2⟩ := cmp_v (Or.inl h)
  cases hb.symm.trans e2
  have hx : x.isRef = true := k2.2
  have := gotT (eq_R e1 hb hx rfl) h
  rw [e1, this]
theorem own_len {Z : State} {args : Array Value} {t : Term} {a : Addr} {cl : Cell} {ty : FieldType} {n : Int32} (ev : t.eval args Z none [] Z = some (.ref a)) (A : Arr Z Z.heap a cl ty) (h : (Jvm.Cond.eq (.length t) (.int n)).value args Z none Z [] = some true) : cl.slots.size < 2 ^ 31 ∧ cl.slots.size.toInt32 = n := by
  have q := eqv_i (Term.int_eval n) h
  have f := A.fin (Vm.Alike.refl _)
  by_cases hs : cl.slots.size < 2 ^ 31
  · rw [len_f ev f hs] at q
    exact ⟨hs, by simpa using q⟩
  · simp [Term.eval, ev, f, hs] at q
theorem own_elI {Z : State} {args : Array Value} {t : Term} {a : Addr} {cl : Cell} {ty : FieldType} {i v : Int32} {k : Nat} (ev : t.eval args Z none [] Z = some (.ref a)) (A : Arr Z Z.heap a cl ty) (h : (Jvm.Cond.eq (.elem t (.int i)) (.int v)).value args Z none Z [] = some true) (hk : i.toNatClampNeg = k) : cl.slots[k]? = some (.int v) := by
  subst hk
  exact (elem_in (eqv_i (Term.int_eval v) h) ev (Term.int_eval i) A.1).2
theorem own_elJ {Z : State} {args : Array Value} {t : Term} {a : Addr} {cl : Cell} {ty : FieldType} {i : Int32} {v : Int64} {k : Nat} (ev : t.eval args Z none [] Z = some (.ref a)) (A : Arr Z Z.heap a cl ty) (h : (Jvm.Cond.eq (.elem t (.int i)) (.long v)).value args Z none Z [] = some true) (hk : i.toNatClampNeg = k) : cl.slots[k]? = some (.long v) := by
  subst hk
  exact (elem_in (eqv_l (long_at v) h) ev (Term.int_eval i) A.1).2
theorem own_elR {Z : State} {args : Array Value} {t : Term} {a : Addr} {cl : Cell} {ty : FieldType} {i : Int32} {v : Value} {k : Nat} (ev : t.eval args Z none [] Z = some (.ref a)) (A : Arr Z Z.heap a cl ty) (h : (Term.elem t (.int i)).eval args Z none [] Z = some v) (hk : i.toNatClampNeg = k) : cl.slots[k]? = some v := by
  subst hk
  exact (elem_in h ev (Term.int_eval i) A.1).2

def own_cp (c : Int32) : Prop := ¬ c < 0 ∧ c < (1114112 : Int32)
def own_nh (c : Int32) : Prop := c < (55296 : Int32) ∨ (56319 : Int32) < c
def own_sp (c : Int32) : Prop := own_cp c ∧ ¬ c < (65536 : Int32)
def own_cn (c : Int32) : Int32 := if c < (65536 : Int32) then 1 else 2
def own_hi (x : Int32) : Int32 := (((55296 : Int32) + (((x - 65536).toUInt32 >>> ((10 : Int32) &&& 31).toUInt32).toInt32)).toUInt32.toUInt16.toUInt32.toInt32)
def own_lo (x : Int32) : Int32 := (((56320 : Int32) + ((x - 65536) &&& 1023)).toUInt32.toUInt16.toUInt32.toInt32)
def own_hs (c : Int32) : Int32 := if c < (55296 : Int32) then 0 else if c < (56320 : Int32) then 1 else 0
def own_ls (c : Int32) : Int32 := if c < (56320 : Int32) then 0 else if c < (57344 : Int32) then 1 else 0
theorem own_hs01 (c : Int32) : own_01 (own_hs c) := by
  unfold own_hs own_01
  repeat' split
  all_goals simp
theorem own_ls01 (c : Int32) : own_01 (own_ls c) := by
  unfold own_ls own_01
  repeat' split
  all_goals simp
theorem own_cn1 {c : Int32} (h : c < (65536 : Int32)) : own_cn c = 1 := if_pos h
theorem own_cn2 {c : Int32} (h : ¬ c < (65536 : Int32)) : own_cn c = 2 := if_neg h
theorem own_cn12 (c : Int32) : own_cn c = 1 ∨ own_cn c = 2 := by unfold own_cn; split <;> simp
theorem own_hic (x : Int32) : own_c (own_hi x) := own_cc _
theorem own_loc (x : Int32) : own_c (own_lo x) := own_cc _
theorem own_spI {c : Int32} (h : own_cp c) (q : ¬ c < (65536 : Int32)) : own_sp c := ⟨h, q⟩
theorem own_cpc {c : Int32} (h : own_cp c) (q : c < (65536 : Int32)) : own_c c := by
  refine ⟨h.1, fun r => ?_⟩
  rw [Int32.lt_iff_toInt_lt] at q r
  have e1 : (65536 : Int32).toInt = 65536 := rfl
  have e2 : (65535 : Int32).toInt = 65535 := rfl
  omega
theorem own_cpt (x : Int32) : own_cp ((x &&& 2147483647) % (1114112 : Int32)) := by
  have h1 : (x &&& 2147483647).toBitVec.toNat ≤ 2147483647 := by
    rw [Int32.toBitVec_and, BitVec.toNat_and]; exact Nat.and_le_right
  have h0 : 0 ≤ (x &&& 2147483647).toInt := by
    show 0 ≤ (x &&& 2147483647).toBitVec.toInt
    rw [BitVec.toInt_eq_toNat_cond, if_pos (by omega)]; omega
  have e : ((x &&& 2147483647) % (1114112 : Int32)).toInt = (x &&& 2147483647).toInt.tmod 1114112 := Int32.toInt_mod _ _
  have g1 := Int.tmod_nonneg 1114112 h0
  have g2 := Int.tmod_lt_of_pos (x &&& 2147483647).toInt (show (0 : Int) < 1114112 by decide)
  refine ⟨?_, ?_⟩
  · rw [Int32.lt_iff_toInt_lt, e]; show ¬ _ < (0 : Int); omega
  · rw [Int32.lt_iff_toInt_lt, e]; exact g2
theorem own_cpx {t : Int32} (h1 : ¬ t < (55296 : Int32)) (h2 : ¬ (56319 : Int32) < t) : own_cp (t + 1024) ∧ own_nh (t + 1024) := by
  rw [Int32.lt_iff_toInt_lt] at h1 h2
  have a1 : (55296 : Int32).toInt = 55296 := rfl
  have a2 : (56319 : Int32).toInt = 56319 := rfl
  have e3 : (t + 1024).toInt = (t.toInt + 1024).bmod (2 ^ 32) := Int32.toInt_add _ _
  rw [Int.bmod_eq_of_le (by omega) (by omega)] at e3
  refine ⟨⟨?_, ?_⟩, Or.inr ?_⟩
  · rw [Int32.lt_iff_toInt_lt, e3]; show ¬ _ < (0 : Int); omega
  · rw [Int32.lt_iff_toInt_lt, e3]; show _ < (1114112 : Int); omega
  · rw [Int32.lt_iff_toInt_lt, e3]; show (56319 : Int) < _; omega
theorem own_spn {x : Int32} (h : own_sp x) : 65536 ≤ x.toBitVec.toNat ∧ x.toBitVec.toNat < 1114112 ∧ x.toInt = x.toBitVec.toNat := by
  obtain ⟨⟨h0, h1⟩, h2⟩ := h
  rw [Int32.lt_iff_toInt_lt] at h0 h1 h2
  have e0 : (0 : Int32).toInt = 0 := rfl
  have e1 : (65536 : Int32).toInt = 65536 := rfl
  have e2 : (1114112 : Int32).toInt = 1114112 := rfl
  have := x.toBitVec.isLt
  have e : x.toInt = x.toBitVec.toInt := rfl
  have e2 : x.toBitVec.toInt = if 2 * x.toBitVec.toNat < 2 ^ 32 then (x.toBitVec.toNat : Int) else (x.toBitVec.toNat : Int) - ((2 ^ 32 : Nat) : Int) := BitVec.toInt_eq_toNat_cond x.toBitVec
  split at e2 <;> omega
theorem own_subN {x : Int32} (h : own_sp x) : (x - 65536).toBitVec.toNat = x.toBitVec.toNat - 65536 := by
  obtain ⟨h1, h2, -⟩ := own_spn h
  have e : (x - 65536).toBitVec = x.toBitVec - 65536#32 := rfl
  rw [e, BitVec.toNat_sub]
  have e2 : (65536#32).toNat = 65536 := rfl
  rw [e2]
  omega
theorem own_hiN {x : Int32} (h : own_sp x) : (own_hi x).toBitVec.toNat = 55296 + (x.toBitVec.toNat - 65536) / 1024 := by
  obtain ⟨h1, h2, -⟩ := own_spn h
  have h3 := own_subN h
  have e1 : ∀ y : Int32, (y.toUInt32.toUInt16.toUInt32.toInt32).toBitVec = (y.toBitVec.setWidth 16).setWidth 32 := fun _ => rfl
  have e2 : ∀ y : Int32, ((y.toUInt32 >>> ((10 : Int32) &&& 31).toUInt32).toInt32).toBitVec = y.toBitVec >>> 10 := fun _ => rfl
  unfold own_hi
  rw [e1, Int32.toBitVec_add, e2, BitVec.toNat_setWidth, BitVec.toNat_setWidth, BitVec.toNat_add, BitVec.toNat_ushiftRight, h3, Nat.shiftRight_eq_div_pow]
  have e3 : (55296 : Int32).toBitVec.toNat = 55296 := rfl
  rw [e3]
  omega
theorem own_loN {x : Int32} (h : own_sp x) : (own_lo x).toBitVec.toNat = 56320 + (x.toBitVec.toNat - 65536) % 1024 := by
  obtain ⟨h1, h2, -⟩ := own_spn h
  have h3 := own_subN h
  have e1 : ∀ y : Int32, (y.toUInt32.toUInt16.toUInt32.toInt32).toBitVec = (y.toBitVec.setWidth 16).setWidth 32 := fun _ => rfl
  unfold own_lo
  rw [e1, Int32.toBitVec_add, Int32.toBitVec_and, BitVec.toNat_setWidth, BitVec.toNat_setWidth, BitVec.toNat_add, BitVec.toNat_and, h3]
  have e3 : (56320 : Int32).toBitVec.toNat = 56320 := rfl
  have e4 : (1023 : Int32).toBitVec.toNat = 2 ^ 10 - 1 := rfl
  rw [e3, e4, Nat.and_two_pow_sub_one_eq_mod]
  omega
theorem own_tcp {x : Int32} (h : own_sp x) : (((own_hi x) <<< ((10 : Int32) &&& 31)) + (own_lo x)) + (-56613888 : Int32) = x := by
  obtain ⟨h1, h2, -⟩ := own_spn h
  have a := own_hiN h
  have b := own_loN h
  apply Int32.toBitVec_inj.mp
  apply BitVec.eq_of_toNat_eq
  have e2 : ∀ y : Int32, (y <<< ((10 : Int32) &&& 31)).toBitVec = y.toBitVec <<< 10 := fun _ => rfl
  have e3 : (-56613888 : Int32).toBitVec.toNat = 4238353408 := rfl
  rw [Int32.toBitVec_add, Int32.toBitVec_add, e2, BitVec.toNat_add, BitVec.toNat_add, BitVec.toNat_shiftLeft, e3, a, b, Nat.shiftLeft_eq]
  omega
theorem own_hiI {x : Int32} (h : own_sp x) : ¬ own_hi x < (55296 : Int32) ∧ own_hi x < (56320 : Int32) ∧ (255 : Int32) < own_hi x := by
  obtain ⟨h1, h2, -⟩ := own_spn h
  have a := own_hiN h
  have b := (own_cnat (own_hic x)).2
  simp only [Int32.lt_iff_toInt_lt]
  have e1 : (55296 : Int32).toInt = 55296 := rfl
  have e2 : (56320 : Int32).toInt = 56320 := rfl
  have e3 : (255 : Int32).toInt = 255 := rfl
  omega
theorem own_loI {x : Int32} (h : own_sp x) : ¬ own_lo x < (56320 : Int32) ∧ own_lo x < (57344 : Int32) ∧ (255 : Int32) < own_lo x := by
  obtain ⟨h1, h2, -⟩ := own_spn h
  have a := own_loN h
  have b := (own_cnat (own_loc x)).2
  simp only [Int32.lt_iff_toInt_lt]
  have e1 : (57344 : Int32).toInt = 57344 := rfl
  have e2 : (56320 : Int32).toInt = 56320 := rfl
  have e3 : (255 : Int32).toInt = 255 := rfl
  omega
theorem own_hsY {x : Int32} (h : own_sp x) : ¬ own_hs (own_hi x) = 0 := by
  obtain ⟨h1, h2, -⟩ := own_hiI h
  unfold own_hs
  rw [if_neg h1, if_pos h2]; decide
theorem own_lsY {x : Int32} (h : own_sp x) : ¬ own_ls (own_lo x) = 0 := by
  obtain ⟨h1, h2, -⟩ := own_loI h
  unfold own_ls
  rw [if_neg h1, if_pos h2]; decide
theorem own_hsN {c : Int32} (h : own_nh c) : own_hs c = 0 := by
  unfold own_hs
  by_cases q : c < (55296 : Int32)
  · rw [if_pos q]
  · rw [if_neg q, if_neg ?_]
    rcases h with h | h
    · exact absurd h q
    · rw [Int32.lt_iff_toInt_lt] at h ⊢
      have e1 : (56319 : Int32).toInt = 56319 := rfl
      have e2 : (56320 : Int32).toInt = 56320 := rfl
      omega
theorem own_tri {x y : Int32} (h1 : ¬ x < y) (h2 : ¬ x = y) : y < x := by
  rw [Int32.lt_iff_toInt_lt] at h1 ⊢
  have h3 : ¬ x.toInt = y.toInt := fun q => h2 (Int32.toInt_inj.mp q)
  omega
theorem own_asy {x y : Int32} (h1 : x < y) : ¬ y < x := by
  rw [Int32.lt_iff_toInt_lt] at h1 ⊢
  omega
theorem own_ltne {x y : Int32} (h1 : x < y) : ¬ x = y := by
  rintro rfl
  rw [Int32.lt_iff_toInt_lt] at h1
  omega
theorem own_irr (x : Int32) : ¬ x < x := by
  rw [Int32.lt_iff_toInt_lt]
  omega
theorem own_z0 (x : Int32) : (0 : Int32) + x = x := Int32.zero_add x

theorem w0 {Z a0} (hw : HW Z a0) : ((Cond.methodLink "com/example/countersign/countersign/Utf8ComparePinLaw" 27 mn7)).before a0 Z = true := wa hw 0 rfl
theorem w1 {Z a0} (hw : HW Z a0) : ((Cond.static mn7)).before a0 Z = true := wa hw 1 rfl
theorem w2 {Z a0} (hw : HW Z a0) : ((Cond.initialized "com/example/countersign/countersign/Utf8ComparePinLaw")).before a0 Z = true := wa hw 2 rfl
theorem w3 {Z a0} (hw : HW Z a0) : ((Cond.code mn7 method_4_code 3 (Option.some FieldType.int))).before a0 Z = true := wa hw 3 rfl
theorem w4 {Z a0} (hw : HW Z a0) : ((Cond.constant "com/example/countersign/countersign/Utf8ComparePinLaw" 7 (2147483647 : Int32))).before a0 Z = true := wa hw 4 rfl
theorem w5 {Z a0} (hw : HW Z a0) : ((Cond.constant "com/example/countersign/countersign/Utf8ComparePinLaw" 8 (1114112 : Int32))).before a0 Z = true := wa hw 5 rfl
theorem w6 {Z a0} (hw : HW Z a0) : ((Cond.constant "com/example/countersign/countersign/Utf8ComparePinLaw" 9 (55296 : Int32))).before a0 Z = true := wa hw 6 rfl
theorem w7 {Z a0} (hw : HW Z a0) : ((Cond.methodLink "com/example/countersign/countersign/Utf8ComparePinLaw" 31 mn11)).before a0 Z = true := wa hw 7 rfl
theorem w8 {Z a0} (hw : HW Z a0) : ((Cond.static mn11)).before a0 Z = true := wa hw 8 rfl
theorem w9 {Z a0} (hw : HW Z a0) : ((Cond.code mn11 method_7_code 5 (Option.some (FieldType.object s1)))).before a0 Z = true := wa hw 9 rfl
theorem w10 {Z a0} (hw : HW Z a0) : ((Cond.classLink "com/example/countersign/countersign/Utf8ComparePinLaw" 13 s1)).before a0 Z = true := wa hw 10 rfl
theorem w11 {Z a0} (hw : HW Z a0) : ((Cond.instantiable s1 4)).before a0 Z = true := wa hw 11 rfl
theorem w12 {Z a0} (hw : HW Z a0) : ((Cond.initialized s1)).before a0 Z = true := wa hw 12 rfl
theorem w13 {Z a0} (hw : HW Z a0) : ((Cond.arrayClass FieldType.char)).before a0 Z = true := wa hw 13 rfl
theorem w14 {Z a0} (hw : HW Z a0) : ((Cond.methodLink "com/example/countersign/countersign/Utf8ComparePinLaw" 15 mn9)).before a0 Z = true := wa hw 14 rfl
theorem w15 {Z a0} (hw : HW Z a0) : ((Cond.instanceMethod mn9)).before a0 Z = true := wa hw 15 rfl
theorem w16 {Z a0} (hw : HW Z a0) : ((Cond.code mn9 jdk_42_method_3_code 2 (Option.none : Option Jvm.ClassFile.FieldType))).before a0 Z = true := wa hw 16 rfl
theorem w17 {Z a0} (hw : HW Z a0) : ((Cond.methodLink s1 27 mn8)).before a0 Z = true := wa hw 17 rfl
theorem w18 {Z a0} (hw : HW Z a0) : ((Cond.instanceMethod mn8)).before a0 Z = true := wa hw 18 rfl
theorem w20 {Z a0} (hw : HW Z a0) : ((Cond.code mn8 jdk_42_method_149_code 6 (Option.none : Option Jvm.ClassFile.FieldType))).before a0 Z = true := wa hw 20 rfl
theorem w21 {Z a0} (hw : HW Z a0) : ((Cond.methodLink s1 1 ⟨"java/lang/Object", "<init>", "()V"⟩)).before a0 Z = true := wa hw 21 rfl
theorem w22 {Z a0} (hw : HW Z a0) : ((Cond.instanceMethod ⟨"java/lang/Object", "<init>", "()V"⟩)).before a0 Z = true := wa hw 22 rfl
theorem w23 {Z a0} (hw : HW Z a0) : ((Cond.code ⟨"java/lang/Object", "<init>", "()V"⟩ object_method_1_code 1 (Option.none : Option Jvm.ClassFile.FieldType))).before a0 Z = true := wa hw 23 rfl
theorem w24 {Z a0} (hw : HW Z a0) : ((Cond.stringLink s1 7 "")).before a0 Z = true := wa hw 24 rfl
theorem w25 {Z a0} (hw : HW Z a0) : ((Cond.arrayClass FieldType.byte)).before a0 Z = true := wa hw 25 rfl
theorem w26 {Z a0} (hw : HW Z a0) : ((Cond.laysFinal s1 s1 "value" "[B")).before a0 Z = true := wa hw 26 rfl
theorem w27 {Z a0} (hw : HW Z a0) : ((Cond.laysFinal s1 s1 "coder" "B")).before a0 Z = true := wa hw 27 rfl
theorem w30 {Z a0} (hw : HW Z a0) : ((Cond.fieldLink s1 9 s1 "value" "[B")).before a0 Z = true := wa hw 30 rfl
theorem w31 {Z a0} (hw : HW Z a0) : ((Cond.fieldLink s1 15 s1 "coder" "B")).before a0 Z = true := wa hw 31 rfl
theorem w32 {Z a0} (hw : HW Z a0) : ((Cond.methodLink "com/example/countersign/countersign/Utf8ComparePinLaw" 35 mn12)).before a0 Z = true := wa hw 32 rfl
theorem w33 {Z a0} (hw : HW Z a0) : ((Cond.static mn12)).before a0 Z = true := wa hw 33 rfl
theorem w34 {Z a0} (hw : HW Z a0) : ((Cond.code mn12 method_3_code 2 (Option.some FieldType.int))).before a0 Z = true := wa hw 34 rfl
theorem w35 {Z a0} (hw : HW Z a0) : ((Cond.methodLink "com/example/countersign/countersign/Utf8ComparePinLaw" 39 mn14)).before a0 Z = true := wa hw 35 rfl
theorem w36 {Z a0} (hw : HW Z a0) : ((Cond.static mn14)).before a0 Z = true := wa hw 36 rfl
theorem w37 {Z a0} (hw : HW Z a0) : ((Cond.initialized "com/example/countersign/countersign/Utf8")).before a0 Z = true := wa hw 37 rfl
theorem w38 {Z a0} (hw : HW Z a0) : ((Cond.code mn14 prog_10_method_4_code 6 (Option.some FieldType.int))).before a0 Z = true := wa hw 38 rfl
theorem w39 {Z a0} (hw : HW Z a0) : ((Cond.methodLink "com/example/countersign/countersign/Utf8" 37 mn0)).before a0 Z = true := wa hw 39 rfl
theorem w40 {Z a0} (hw : HW Z a0) : ((Cond.declares mn0)).before a0 Z = true := wa hw 40 rfl
theorem w41 {Z a0} (hw : HW Z a0) : ((Cond.instanceMethod mn0)).before a0 Z = true := wa hw 41 rfl
theorem w42 {Z a0} (hw : HW Z a0) : ((Cond.selects s1 mn0 mn0)).before a0 Z = true := wa hw 42 rfl
theorem w43 {Z a0} (hw : HW Z a0) : ((Cond.code mn0 jdk_42_method_54_code 1 (Option.some FieldType.int))).before a0 Z = true := wa hw 43 rfl
theorem w44 {Z a0} (hw : HW Z a0) : ((Cond.methodLink s1 335 mn10)).before a0 Z = true := wa hw 44 rfl
theorem w45 {Z a0} (hw : HW Z a0) : ((Cond.declares mn10)).before a0 Z = true := wa hw 45 rfl
theorem w46 {Z a0} (hw : HW Z a0) : ((Cond.instanceMethod mn10)).before a0 Z = true := wa hw 46 rfl
theorem w47 {Z a0} (hw : HW Z a0) : ((Cond.selects s1 mn10 mn10)).before a0 Z = true := wa hw 47 rfl
theorem w48 {Z a0} (hw : HW Z a0) : ((Cond.code mn10 jdk_42_method_152_code 1 (Option.some FieldType.byte))).before a0 Z = true := wa hw 48 rfl
theorem w49 {Z a0} (hw : HW Z a0) : ((Cond.fieldLink s1 38 s1 s5 "Z")).before a0 Z = true := wa hw 49 rfl
theorem w50 {Z a0} (hw : HW Z a0) : ((Cond.methodLink "com/example/countersign/countersign/Utf8" 62 mn13)).before a0 Z = true := wa hw 50 rfl
theorem w51 {Z a0} (hw : HW Z a0) : ((Cond.static mn13)).before a0 Z = true := wa hw 51 rfl
theorem w52 {Z a0} (hw : HW Z a0) : ((Cond.initialized "java/lang/Integer")).before a0 Z = true := wa hw 52 rfl
theorem w53 {Z a0} (hw : HW Z a0) : ((Cond.code mn13 jdk_33_method_40_code 2 (Option.some FieldType.int))).before a0 Z = true := wa hw 53 rfl
theorem w54 {Z a0} (hw : HW Z a0) : ((Cond.methodLink "com/example/countersign/countersign/Utf8ComparePinLaw" 45 mn15)).before a0 Z = true := wa hw 54 rfl
theorem w55 {Z a0} (hw : HW Z a0) : ((Cond.static mn15)).before a0 Z = true := wa hw 55 rfl
theorem w56 {Z a0} (hw : HW Z a0) : ((Cond.code mn15 method_2_code 1 (Option.some FieldType.int))).before a0 Z = true := wa hw 56 rfl
theorem w57 {Z a0} (hw : HW Z a0) : ((Cond.constant "com/example/countersign/countersign/Utf8ComparePinLaw" 11 (65536 : Int32))).before a0 Z = true := wa hw 57 rfl
theorem w58 {Z a0} (hw : HW Z a0) : ((Cond.methodLink s1 177 mn17)).before a0 Z = true := wa hw 58 rfl
theorem w59 {Z a0} (hw : HW Z a0) : ((Cond.static mn17)).before a0 Z = true := wa hw 59 rfl
theorem w60 {Z a0} (hw : HW Z a0) : ((Cond.initialized s0)).before a0 Z = true := wa hw 60 rfl
theorem w61 {Z a0} (hw : HW Z a0) : ((Cond.code mn17 jdk_52_method_16_code 6 (Option.some (FieldType.array FieldType.byte)))).before a0 Z = true := wa hw 61 rfl
theorem w62 {Z a0} (hw : HW Z a0) : ((Cond.methodLink s0 115 mn16)).before a0 Z = true := wa hw 62 rfl
theorem w63 {Z a0} (hw : HW Z a0) : ((Cond.static mn16)).before a0 Z = true := wa hw 63 rfl
theorem w64 {Z a0} (hw : HW Z a0) : ((Cond.code mn16 jdk_52_method_21_code 7 (Option.some FieldType.int))).before a0 Z = true := wa hw 64 rfl
theorem w65 {Z a0} (hw : HW Z a0) : ((Cond.methodLink s1 47 mn18)).before a0 Z = true := wa hw 65 rfl
theorem w66 {Z a0} (hw : HW Z a0) : ((Cond.static mn18)).before a0 Z = true := wa hw 66 rfl
theorem w67 {Z a0} (hw : HW Z a0) : ((Cond.code mn18 jdk_52_method_15_code 2 (Option.some FieldType.byte))).before a0 Z = true := wa hw 67 rfl
theorem w68 {Z a0} (hw : HW Z a0) : ((Cond.methodLink "com/example/countersign/countersign/Utf8" 58 mn1)).before a0 Z = true := wa hw 68 rfl
theorem w69 {Z a0} (hw : HW Z a0) : ((Cond.declares mn1)).before a0 Z = true := wa hw 69 rfl
theorem w70 {Z a0} (hw : HW Z a0) : ((Cond.instanceMethod mn1)).before a0 Z = true := wa hw 70 rfl
theorem w71 {Z a0} (hw : HW Z a0) : ((Cond.selects s1 mn1 mn1)).before a0 Z = true := wa hw 71 rfl
theorem w72 {Z a0} (hw : HW Z a0) : ((Cond.code mn1 jdk_42_method_57_code 3 (Option.some FieldType.int))).before a0 Z = true := wa hw 72 rfl
theorem w73 {Z a0} (hw : HW Z a0) : ((Cond.methodLink s1 492 mn19)).before a0 Z = true := wa hw 73 rfl
theorem w74 {Z a0} (hw : HW Z a0) : ((Cond.declares mn19)).before a0 Z = true := wa hw 74 rfl
theorem w75 {Z a0} (hw : HW Z a0) : ((Cond.instanceMethod mn19)).before a0 Z = true := wa hw 75 rfl
theorem w76 {Z a0} (hw : HW Z a0) : ((Cond.selects s1 mn19 mn19)).before a0 Z = true := wa hw 76 rfl
theorem w77 {Z a0} (hw : HW Z a0) : ((Cond.code mn19 jdk_42_method_154_code 1 (Option.some FieldType.boolean))).before a0 Z = true := wa hw 77 rfl
theorem w78 {Z a0} (hw : HW Z a0) : ((Cond.methodLink s1 499 mn21)).before a0 Z = true := wa hw 78 rfl
theorem w79 {Z a0} (hw : HW Z a0) : ((Cond.static mn21)).before a0 Z = true := wa hw 79 rfl
theorem w80 {Z a0} (hw : HW Z a0) : ((Cond.code mn21 jdk_42_method_155_code 2 (Option.none : Option Jvm.ClassFile.FieldType))).before a0 Z = true := wa hw 80 rfl
theorem w81 {Z a0} (hw : HW Z a0) : ((Cond.fieldLink s1 1053 s6 s7 s8)).before a0 Z = true := wa hw 81 rfl
theorem w82 {Z a0} (hw : HW Z a0) : ((Cond.initialized s6)).before a0 Z = true := wa hw 82 rfl
theorem w83 {Z a0} (hw : HW Z a0) : ((Cond.methodLink s1 1059 mn20)).before a0 Z = true := wa hw 83 rfl
theorem w84 {Z a0} (hw : HW Z a0) : ((Cond.static mn20)).before a0 Z = true := wa hw 84 rfl
theorem w85 {Z a0} (hw : HW Z a0) : ((Cond.code mn20 jdk_41_method_11_code 3 (Option.some FieldType.int))).before a0 Z = true := wa hw 85 rfl
theorem w86 {Z a0} (hw : HW Z a0) : ((Cond.constant "com/example/countersign/countersign/Utf8ComparePinLaw" 10 (56319 : Int32))).before a0 Z = true := wa hw 86 rfl
theorem w87 {Z a0} (hw : HW Z a0) : ((Cond.methodLink "com/example/countersign/countersign/Utf8ComparePinLaw" 18 mn2)).before a0 Z = true := wa hw 87 rfl
theorem w88 {Z a0} (hw : HW Z a0) : ((Cond.static mn2)).before a0 Z = true := wa hw 88 rfl
theorem w89 {Z a0} (hw : HW Z a0) : ((Cond.code mn2 method_5_code 1 (Option.some FieldType.char))).before a0 Z = true := wa hw 89 rfl
theorem w90 {Z a0} (hw : HW Z a0) : ((Cond.methodLink "com/example/countersign/countersign/Utf8ComparePinLaw" 24 mn3)).before a0 Z = true := wa hw 90 rfl
theorem w91 {Z a0} (hw : HW Z a0) : ((Cond.static mn3)).before a0 Z = true := wa hw 91 rfl
theorem w92 {Z a0} (hw : HW Z a0) : ((Cond.code mn3 method_6_code 1 (Option.some FieldType.char))).before a0 Z = true := wa hw 92 rfl
theorem w93 {Z a0} (hw : HW Z a0) : ((Cond.constant "com/example/countersign/countersign/Utf8ComparePinLaw" 12 (56320 : Int32))).before a0 Z = true := wa hw 93 rfl
theorem w94 {Z a0} (hw : HW Z a0) : ((Cond.methodLink s0 119 mn25)).before a0 Z = true := wa hw 94 rfl
theorem w95 {Z a0} (hw : HW Z a0) : ((Cond.static mn25)).before a0 Z = true := wa hw 95 rfl
theorem w96 {Z a0} (hw : HW Z a0) : ((Cond.code mn25 jdk_52_method_14_code 5 (Option.some (FieldType.array FieldType.byte)))).before a0 Z = true := wa hw 96 rfl
theorem w97 {Z a0} (hw : HW Z a0) : ((Cond.methodLink s0 107 mn23)).before a0 Z = true := wa hw 97 rfl
theorem w98 {Z a0} (hw : HW Z a0) : ((Cond.static mn23)).before a0 Z = true := wa hw 98 rfl
theorem w99 {Z a0} (hw : HW Z a0) : ((Cond.code mn23 jdk_52_method_2_code 1 (Option.some (FieldType.array FieldType.byte)))).before a0 Z = true := wa hw 99 rfl
theorem w100 {Z a0} (hw : HW Z a0) : ((Cond.methodLink s0 11 mn22)).before a0 Z = true := wa hw 100 rfl
theorem w101 {Z a0} (hw : HW Z a0) : ((Cond.static mn22)).before a0 Z = true := wa hw 101 rfl
theorem w102 {Z a0} (hw : HW Z a0) : ((Cond.code mn22 jdk_52_method_3_code 1 (Option.some FieldType.int))).before a0 Z = true := wa hw 102 rfl
theorem w103 {Z a0} (hw : HW Z a0) : ((Cond.constant s0 20 (1073741823 : Int32))).before a0 Z = true := wa hw 103 rfl
theorem w104 {Z a0} (hw : HW Z a0) : ((Cond.methodLink s0 111 mn24)).before a0 Z = true := wa hw 104 rfl
theorem w105 {Z a0} (hw : HW Z a0) : ((Cond.static mn24)).before a0 Z = true := wa hw 105 rfl
theorem w106 {Z a0} (hw : HW Z a0) : ((Cond.code mn24 jdk_52_method_4_code 3 (Option.none : Option Jvm.ClassFile.FieldType))).before a0 Z = true := wa hw 106 rfl
theorem w107 {Z a0} (hw : HW Z a0) : ((Cond.fieldLink s0 44 s0 s2 "Z")).before a0 Z = true := wa hw 107 rfl
theorem w108 {Z a0} (hw : HW Z a0) : ((Cond.fieldLink s0 59 s0 s3 "I")).before a0 Z = true := wa hw 108 rfl
theorem w109 {Z a0} (hw : HW Z a0) : ((Cond.fieldLink s0 63 s0 s4 "I")).before a0 Z = true := wa hw 109 rfl
theorem w110 {Z a0} (hw : HW Z a0) : ((Cond.methodLink s0 71 mn26)).before a0 Z = true := wa hw 110 rfl
theorem w111 {Z a0} (hw : HW Z a0) : ((Cond.static mn26)).before a0 Z = true := wa hw 111 rfl
theorem w112 {Z a0} (hw : HW Z a0) : ((Cond.code mn26 jdk_52_method_5_code 2 (Option.some FieldType.char))).before a0 Z = true := wa hw 112 rfl
theorem w113 {Z a0} (hw : HW Z a0) : ((Cond.methodLink "com/example/countersign/countersign/Utf8" 68 mn4)).before a0 Z = true := wa hw 113 rfl
theorem w114 {Z a0} (hw : HW Z a0) : ((Cond.static mn4)).before a0 Z = true := wa hw 114 rfl
theorem w115 {Z a0} (hw : HW Z a0) : ((Cond.initialized "java/lang/Character")).before a0 Z = true := wa hw 115 rfl
theorem w116 {Z a0} (hw : HW Z a0) : ((Cond.code mn4 jdk_89_method_18_code 1 (Option.some FieldType.int))).before a0 Z = true := wa hw 116 rfl
theorem w117 {Z a0} (hw : HW Z a0) : ((Cond.constant "java/lang/Character" 73 (65536 : Int32))).before a0 Z = true := wa hw 117 rfl
theorem w118 {Z a0} (hw : HW Z a0) : ((Cond.methodLink s1 502 mn28)).before a0 Z = true := wa hw 118 rfl
theorem w119 {Z a0} (hw : HW Z a0) : ((Cond.static mn28)).before a0 Z = true := wa hw 119 rfl
theorem w120 {Z a0} (hw : HW Z a0) : ((Cond.code mn28 jdk_52_method_8_code 3 (Option.some FieldType.int))).before a0 Z = true := wa hw 120 rfl
theorem w121 {Z a0} (hw : HW Z a0) : ((Cond.methodLink s0 88 mn27)).before a0 Z = true := wa hw 121 rfl
theorem w122 {Z a0} (hw : HW Z a0) : ((Cond.static mn27)).before a0 Z = true := wa hw 122 rfl
theorem w123 {Z a0} (hw : HW Z a0) : ((Cond.code mn27 jdk_52_method_7_code 6 (Option.some FieldType.int))).before a0 Z = true := wa hw 123 rfl
theorem w124 {Z a0} (hw : HW Z a0) : ((Cond.methodLink s0 75 mn5)).before a0 Z = true := wa hw 124 rfl
theorem w125 {Z a0} (hw : HW Z a0) : ((Cond.static mn5)).before a0 Z = true := wa hw 125 rfl
theorem w126 {Z a0} (hw : HW Z a0) : ((Cond.code mn5 jdk_89_method_14_code 1 (Option.some FieldType.boolean))).before a0 Z = true := wa hw 126 rfl
theorem w127 {Z a0} (hw : HW Z a0) : ((Cond.constant "java/lang/Character" 75 (55296 : Int32))).before a0 Z = true := wa hw 127 rfl
theorem w128 {Z a0} (hw : HW Z a0) : ((Cond.constant "java/lang/Character" 76 (56320 : Int32))).before a0 Z = true := wa hw 128 rfl
theorem w129 {Z a0} (hw : HW Z a0) : ((Cond.methodLink s0 81 mn6)).before a0 Z = true := wa hw 129 rfl
theorem w130 {Z a0} (hw : HW Z a0) : ((Cond.static mn6)).before a0 Z = true := wa hw 130 rfl
theorem w131 {Z a0} (hw : HW Z a0) : ((Cond.code mn6 jdk_89_method_15_code 1 (Option.some FieldType.boolean))).before a0 Z = true := wa hw 131 rfl
theorem w132 {Z a0} (hw : HW Z a0) : ((Cond.constant "java/lang/Character" 77 (57344 : Int32))).before a0 Z = true := wa hw 132 rfl
theorem w133 {Z a0} (hw : HW Z a0) : ((Cond.methodLink s0 84 mn29)).before a0 Z = true := wa hw 133 rfl
theorem w134 {Z a0} (hw : HW Z a0) : ((Cond.static mn29)).before a0 Z = true := wa hw 134 rfl
theorem w135 {Z a0} (hw : HW Z a0) : ((Cond.code mn29 jdk_89_method_19_code 2 (Option.some FieldType.int))).before a0 Z = true := wa hw 135 rfl
theorem w136 {Z a0} (hw : HW Z a0) : ((Cond.constant "java/lang/Character" 85 (-56613888 : Int32))).before a0 Z = true := wa hw 136 rfl
theorem d1_0 : dc c0_ 0 (.iload_n 0) 1 := by decide +kernel
theorem d1_1 : dc c0_ 1 (.ldc 7) 2 := by decide +kernel
theorem d1_3 : dc c0_ 3 (.iand) 1 := by decide +kernel
theorem d1_4 : dc c0_ 4 (.ldc 8) 2 := by decide +kernel
theorem d1_6 : dc c0_ 6 (.irem) 1 := by decide +kernel
theorem d1_7 : dc c0_ 7 (.istore_n 2) 1 := by decide +kernel
theorem d1_8 : dc c0_ 8 (.iload_n 1) 1 := by decide +kernel
theorem d1_9 : dc c0_ 9 (.ifCond .ne 21) 3 := by decide +kernel
theorem d1_12 : dc c0_ 12 (.iload_n 2) 1 := by decide +kernel
theorem d1_13 : dc c0_ 13 (.ldc 9) 2 := by decide +kernel
theorem d1_15 : dc c0_ 15 (.if_icmp .lt 15) 3 := by decide +kernel
theorem d1_18 : dc c0_ 18 (.iload_n 2) 1 := by decide +kernel
theorem d1_19 : dc c0_ 19 (.ldc 10) 2 := by decide +kernel
theorem d1_21 : dc c0_ 21 (.if_icmp .gt 9) 3 := by decide +kernel
theorem d1_24 : dc c0_ 24 (.iload_n 2) 1 := by decide +kernel
theorem d1_25 : dc c0_ 25 (.sipush 1024) 3 := by decide +kernel
theorem d1_28 : dc c0_ 28 (.iadd) 1 := by decide +kernel
theorem d1_29 : dc c0_ 29 (.istore_n 2) 1 := by decide +kernel
theorem d1_30 : dc c0_ 30 (.iload_n 2) 1 := by decide +kernel
theorem d1_31 : dc c0_ 31 (.ireturn) 1 := by decide +kernel
theorem d2_0 : dc c1_ 0 (.iload_n 0) 1 := by decide +kernel
theorem d2_1 : dc c1_ 1 (.ifCond .ne 14) 3 := by decide +kernel
theorem d2_4 : dc c1_ 4 (.new 13) 3 := by decide +kernel
theorem d2_7 : dc c1_ 7 (.dup) 1 := by decide +kernel
theorem d2_8 : dc c1_ 8 (.iconst 0) 1 := by decide +kernel
theorem d2_9 : dc c1_ 9 (.newarray .char) 2 := by decide +kernel
theorem d2_11 : dc c1_ 11 (.invokespecial 15) 3 := by decide +kernel
theorem d2_14 : dc c1_ 14 (.areturn) 1 := by decide +kernel
theorem d2_15 : dc c1_ 15 (.iload_n 1) 1 := by decide +kernel
theorem d2_16 : dc c1_ 16 (.ldc 11) 2 := by decide +kernel
theorem d2_18 : dc c1_ 18 (.if_icmp .lt 7) 3 := by decide +kernel
theorem d2_21 : dc c1_ 21 (.iconst 1) 1 := by decide +kernel
theorem d2_22 : dc c1_ 22 (.goto 4) 3 := by decide +kernel
theorem d2_25 : dc c1_ 25 (.iconst 0) 1 := by decide +kernel
theorem d2_26 : dc c1_ 26 (.istore_n 3) 1 := by decide +kernel
theorem d2_27 : dc c1_ 27 (.iload_n 0) 1 := by decide +kernel
theorem d2_28 : dc c1_ 28 (.iconst 1) 1 := by decide +kernel
theorem d2_29 : dc c1_ 29 (.if_icmp .ne 48) 3 := by decide +kernel
theorem d2_32 : dc c1_ 32 (.iload_n 3) 1 := by decide +kernel
theorem d2_33 : dc c1_ 33 (.ifCond .eq 28) 3 := by decide +kernel
theorem d2_36 : dc c1_ 36 (.new 13) 3 := by decide +kernel
theorem d2_39 : dc c1_ 39 (.dup) 1 := by decide +kernel
theorem d2_40 : dc c1_ 40 (.iconst 2) 1 := by decide +kernel
theorem d2_41 : dc c1_ 41 (.newarray .char) 2 := by decide +kernel
theorem d2_43 : dc c1_ 43 (.dup) 1 := by decide +kernel
theorem d2_44 : dc c1_ 44 (.iconst 0) 1 := by decide +kernel
theorem d2_45 : dc c1_ 45 (.iload_n 1) 1 := by decide +kernel
theorem d2_46 : dc c1_ 46 (.invokestatic 18) 3 := by decide +kernel
theorem d2_49 : dc c1_ 49 (.castore) 1 := by decide +kernel
theorem d2_50 : dc c1_ 50 (.dup) 1 := by decide +kernel
theorem d2_51 : dc c1_ 51 (.iconst 1) 1 := by decide +kernel
theorem d2_52 : dc c1_ 52 (.iload_n 1) 1 := by decide +kernel
theorem d2_53 : dc c1_ 53 (.invokestatic 24) 3 := by decide +kernel
theorem d2_56 : dc c1_ 56 (.castore) 1 := by decide +kernel
theorem d2_57 : dc c1_ 57 (.invokespecial 15) 3 := by decide +kernel
theorem d2_60 : dc c1_ 60 (.areturn) 1 := by decide +kernel
theorem d2_61 : dc c1_ 61 (.new 13) 3 := by decide +kernel
theorem d2_64 : dc c1_ 64 (.dup) 1 := by decide +kernel
theorem d2_65 : dc c1_ 65 (.iconst 1) 1 := by decide +kernel
theorem d2_66 : dc c1_ 66 (.newarray .char) 2 := by decide +kernel
theorem d2_68 : dc c1_ 68 (.dup) 1 := by decide +kernel
theorem d2_69 : dc c1_ 69 (.iconst 0) 1 := by decide +kernel
theorem d2_70 : dc c1_ 70 (.iload_n 1) 1 := by decide +kernel
theorem d2_71 : dc c1_ 71 (.i2c) 1 := by decide +kernel
theorem d2_72 : dc c1_ 72 (.castore) 1 := by decide +kernel
theorem d2_73 : dc c1_ 73 (.invokespecial 15) 3 := by decide +kernel
theorem d2_76 : dc c1_ 76 (.areturn) 1 := by decide +kernel
theorem d2_77 : dc c1_ 77 (.iload_n 2) 1 := by decide +kernel
theorem d2_78 : dc c1_ 78 (.ldc 11) 2 := by decide +kernel
theorem d2_80 : dc c1_ 80 (.if_icmp .lt 7) 3 := by decide +kernel
theorem d2_83 : dc c1_ 83 (.iconst 1) 1 := by decide +kernel
theorem d2_84 : dc c1_ 84 (.goto 4) 3 := by decide +kernel
theorem d2_87 : dc c1_ 87 (.iconst 0) 1 := by decide +kernel
theorem d2_88 : dc c1_ 88 (.istore 4) 2 := by decide +kernel
theorem d2_90 : dc c1_ 90 (.iload_n 3) 1 := by decide +kernel
theorem d2_91 : dc c1_ 91 (.ifCond .eq 47) 3 := by decide +kernel
theorem d2_94 : dc c1_ 94 (.iload 4) 2 := by decide +kernel
theorem d2_96 : dc c1_ 96 (.ifCond .eq 42) 3 := by decide +kernel
theorem d2_99 : dc c1_ 99 (.new 13) 3 := by decide +kernel
theorem d2_102 : dc c1_ 102 (.dup) 1 := by decide +kernel
theorem d2_103 : dc c1_ 103 (.iconst 4) 1 := by decide +kernel
theorem d2_104 : dc c1_ 104 (.newarray .char) 2 := by decide +kernel
theorem d2_106 : dc c1_ 106 (.dup) 1 := by decide +kernel
theorem d2_107 : dc c1_ 107 (.iconst 0) 1 := by decide +kernel
theorem d2_108 : dc c1_ 108 (.iload_n 1) 1 := by decide +kernel
theorem d2_109 : dc c1_ 109 (.invokestatic 18) 3 := by decide +kernel
theorem d2_112 : dc c1_ 112 (.castore) 1 := by decide +kernel
theorem d2_113 : dc c1_ 113 (.dup) 1 := by decide +kernel
theorem d2_114 : dc c1_ 114 (.iconst 1) 1 := by decide +kernel
theorem d2_115 : dc c1_ 115 (.iload_n 1) 1 := by decide +kernel
theorem d2_116 : dc c1_ 116 (.invokestatic 24) 3 := by decide +kernel
theorem d2_119 : dc c1_ 119 (.castore) 1 := by decide +kernel
theorem d2_120 : dc c1_ 120 (.dup) 1 := by decide +kernel
theorem d2_121 : dc c1_ 121 (.iconst 2) 1 := by decide +kernel
theorem d2_122 : dc c1_ 122 (.iload_n 2) 1 := by decide +kernel
theorem d2_123 : dc c1_ 123 (.invokestatic 18) 3 := by decide +kernel
theorem d2_126 : dc c1_ 126 (.castore) 1 := by decide +kernel
theorem d2_127 : dc c1_ 127 (.dup) 1 := by decide +kernel
theorem d2_128 : dc c1_ 128 (.iconst 3) 1 := by decide +kernel
theorem d2_129 : dc c1_ 129 (.iload_n 2) 1 := by decide +kernel
theorem d2_130 : dc c1_ 130 (.invokestatic 24) 3 := by decide +kernel
theorem d2_133 : dc c1_ 133 (.castore) 1 := by decide +kernel
theorem d2_134 : dc c1_ 134 (.invokespecial 15) 3 := by decide +kernel
theorem d2_137 : dc c1_ 137 (.areturn) 1 := by decide +kernel
theorem d2_138 : dc c1_ 138 (.iload_n 3) 1 := by decide +kernel
theorem d2_139 : dc c1_ 139 (.ifCond .eq 33) 3 := by decide +kernel
theorem d2_142 : dc c1_ 142 (.new 13) 3 := by decide +kernel
theorem d2_145 : dc c1_ 145 (.dup) 1 := by decide +kernel
theorem d2_146 : dc c1_ 146 (.iconst 3) 1 := by decide +kernel
theorem d2_147 : dc c1_ 147 (.newarray .char) 2 := by decide +kernel
theorem d2_149 : dc c1_ 149 (.dup) 1 := by decide +kernel
theorem d2_150 : dc c1_ 150 (.iconst 0) 1 := by decide +kernel
theorem d2_151 : dc c1_ 151 (.iload_n 1) 1 := by decide +kernel
theorem d2_152 : dc c1_ 152 (.invokestatic 18) 3 := by decide +kernel
theorem d2_155 : dc c1_ 155 (.castore) 1 := by decide +kernel
theorem d2_156 : dc c1_ 156 (.dup) 1 := by decide +kernel
theorem d2_157 : dc c1_ 157 (.iconst 1) 1 := by decide +kernel
theorem d2_158 : dc c1_ 158 (.iload_n 1) 1 := by decide +kernel
theorem d2_159 : dc c1_ 159 (.invokestatic 24) 3 := by decide +kernel
theorem d2_162 : dc c1_ 162 (.castore) 1 := by decide +kernel
theorem d2_163 : dc c1_ 163 (.dup) 1 := by decide +kernel
theorem d2_164 : dc c1_ 164 (.iconst 2) 1 := by decide +kernel
theorem d2_165 : dc c1_ 165 (.iload_n 2) 1 := by decide +kernel
theorem d2_166 : dc c1_ 166 (.i2c) 1 := by decide +kernel
theorem d2_167 : dc c1_ 167 (.castore) 1 := by decide +kernel
theorem d2_168 : dc c1_ 168 (.invokespecial 15) 3 := by decide +kernel
theorem d2_171 : dc c1_ 171 (.areturn) 1 := by decide +kernel
theorem d2_172 : dc c1_ 172 (.iload 4) 2 := by decide +kernel
theorem d2_174 : dc c1_ 174 (.ifCond .eq 33) 3 := by decide +kernel
theorem d2_177 : dc c1_ 177 (.new 13) 3 := by decide +kernel
theorem d2_180 : dc c1_ 180 (.dup) 1 := by decide +kernel
theorem d2_181 : dc c1_ 181 (.iconst 3) 1 := by decide +kernel
theorem d2_182 : dc c1_ 182 (.newarray .char) 2 := by decide +kernel
theorem d2_184 : dc c1_ 184 (.dup) 1 := by decide +kernel
theorem d2_185 : dc c1_ 185 (.iconst 0) 1 := by decide +kernel
theorem d2_186 : dc c1_ 186 (.iload_n 1) 1 := by decide +kernel
theorem d2_187 : dc c1_ 187 (.i2c) 1 := by decide +kernel
theorem d2_188 : dc c1_ 188 (.castore) 1 := by decide +kernel
theorem d2_189 : dc c1_ 189 (.dup) 1 := by decide +kernel
theorem d2_190 : dc c1_ 190 (.iconst 1) 1 := by decide +kernel
theorem d2_191 : dc c1_ 191 (.iload_n 2) 1 := by decide +kernel
theorem d2_192 : dc c1_ 192 (.invokestatic 18) 3 := by decide +kernel
theorem d2_195 : dc c1_ 195 (.castore) 1 := by decide +kernel
theorem d2_196 : dc c1_ 196 (.dup) 1 := by decide +kernel
theorem d2_197 : dc c1_ 197 (.iconst 2) 1 := by decide +kernel
theorem d2_198 : dc c1_ 198 (.iload_n 2) 1 := by decide +kernel
theorem d2_199 : dc c1_ 199 (.invokestatic 24) 3 := by decide +kernel
theorem d2_202 : dc c1_ 202 (.castore) 1 := by decide +kernel
theorem d2_203 : dc c1_ 203 (.invokespecial 15) 3 := by decide +kernel
theorem d2_206 : dc c1_ 206 (.areturn) 1 := by decide +kernel
theorem d2_207 : dc c1_ 207 (.new 13) 3 := by decide +kernel
theorem d2_210 : dc c1_ 210 (.dup) 1 := by decide +kernel
theorem d2_211 : dc c1_ 211 (.iconst 2) 1 := by decide +kernel
theorem d2_212 : dc c1_ 212 (.newarray .char) 2 := by decide +kernel
theorem d2_214 : dc c1_ 214 (.dup) 1 := by decide +kernel
theorem d2_215 : dc c1_ 215 (.iconst 0) 1 := by decide +kernel
theorem d2_216 : dc c1_ 216 (.iload_n 1) 1 := by decide +kernel
theorem d2_217 : dc c1_ 217 (.i2c) 1 := by decide +kernel
theorem d2_218 : dc c1_ 218 (.castore) 1 := by decide +kernel
theorem d2_219 : dc c1_ 219 (.dup) 1 := by decide +kernel
theorem d2_220 : dc c1_ 220 (.iconst 1) 1 := by decide +kernel
theorem d2_221 : dc c1_ 221 (.iload_n 2) 1 := by decide +kernel
theorem d2_222 : dc c1_ 222 (.i2c) 1 := by decide +kernel
theorem d2_223 : dc c1_ 223 (.castore) 1 := by decide +kernel
theorem d2_224 : dc c1_ 224 (.invokespecial 15) 3 := by decide +kernel
theorem d2_227 : dc c1_ 227 (.areturn) 1 := by decide +kernel
theorem d3_0 : dc c2_ 0 (.aload_n 0) 1 := by decide +kernel
theorem d3_1 : dc c2_ 1 (.aload_n 1) 1 := by decide +kernel
theorem d3_2 : dc c2_ 2 (.iconst 0) 1 := by decide +kernel
theorem d3_3 : dc c2_ 3 (.aload_n 1) 1 := by decide +kernel
theorem d3_4 : dc c2_ 4 (.arraylength) 1 := by decide +kernel
theorem d3_5 : dc c2_ 5 (.aconst_null) 1 := by decide +kernel
theorem d3_6 : dc c2_ 6 (.invokespecial 27) 3 := by decide +kernel
theorem d3_9 : dc c2_ 9 (.return_) 1 := by decide +kernel
theorem d4_0 : dc c3_ 0 (.aload_n 0) 1 := by decide +kernel
theorem d4_1 : dc c3_ 1 (.invokespecial 1) 3 := by decide +kernel
theorem d4_4 : dc c3_ 4 (.iload_n 3) 1 := by decide +kernel
theorem d4_5 : dc c3_ 5 (.ifCond .ne 22) 3 := by decide +kernel
theorem d4_8 : dc c3_ 8 (.aload_n 0) 1 := by decide +kernel
theorem d4_9 : dc c3_ 9 (.ldc 7) 2 := by decide +kernel
theorem d4_11 : dc c3_ 11 (.getfield 9) 3 := by decide +kernel
theorem d4_14 : dc c3_ 14 (.putfield 9) 3 := by decide +kernel
theorem d4_17 : dc c3_ 17 (.aload_n 0) 1 := by decide +kernel
theorem d4_18 : dc c3_ 18 (.ldc 7) 2 := by decide +kernel
theorem d4_20 : dc c3_ 20 (.getfield 15) 3 := by decide +kernel
theorem d4_23 : dc c3_ 23 (.putfield 15) 3 := by decide +kernel
theorem d4_26 : dc c3_ 26 (.return_) 1 := by decide +kernel
theorem d4_27 : dc c3_ 27 (.getstatic 38) 3 := by decide +kernel
theorem d4_30 : dc c3_ 30 (.ifCond .eq 28) 3 := by decide +kernel
theorem d4_33 : dc c3_ 33 (.aload_n 1) 1 := by decide +kernel
theorem d4_34 : dc c3_ 34 (.iload_n 2) 1 := by decide +kernel
theorem d4_35 : dc c3_ 35 (.iload_n 3) 1 := by decide +kernel
theorem d4_36 : dc c3_ 36 (.invokestatic 177) 3 := by decide +kernel
theorem d4_39 : dc c3_ 39 (.astore 5) 2 := by decide +kernel
theorem d4_41 : dc c3_ 41 (.aload_n 0) 1 := by decide +kernel
theorem d4_42 : dc c3_ 42 (.aload 5) 2 := by decide +kernel
theorem d4_44 : dc c3_ 44 (.iload_n 3) 1 := by decide +kernel
theorem d4_45 : dc c3_ 45 (.invokestatic 47) 3 := by decide +kernel
theorem d4_48 : dc c3_ 48 (.putfield 15) 3 := by decide +kernel
theorem d4_51 : dc c3_ 51 (.aload_n 0) 1 := by decide +kernel
theorem d4_52 : dc c3_ 52 (.aload 5) 2 := by decide +kernel
theorem d4_54 : dc c3_ 54 (.putfield 9) 3 := by decide +kernel
theorem d4_57 : dc c3_ 57 (.return_) 1 := by decide +kernel
theorem d6_0 : dc c4_ 0 (.iload_n 0) 1 := by decide +kernel
theorem d6_1 : dc c4_ 1 (.iload_n 1) 1 := by decide +kernel
theorem d6_2 : dc c4_ 2 (.if_icmp .ge 7) 3 := by decide +kernel
theorem d6_5 : dc c4_ 5 (.iconst (-1)) 1 := by decide +kernel
theorem d6_6 : dc c4_ 6 (.goto 13) 3 := by decide +kernel
theorem d6_9 : dc c4_ 9 (.iload_n 0) 1 := by decide +kernel
theorem d6_10 : dc c4_ 10 (.iload_n 1) 1 := by decide +kernel
theorem d6_11 : dc c4_ 11 (.if_icmp .le 7) 3 := by decide +kernel
theorem d6_14 : dc c4_ 14 (.iconst 1) 1 := by decide +kernel
theorem d6_15 : dc c4_ 15 (.goto 4) 3 := by decide +kernel
theorem d6_18 : dc c4_ 18 (.iconst 0) 1 := by decide +kernel
theorem d6_19 : dc c4_ 19 (.ireturn) 1 := by decide +kernel
theorem d7_0 : dc c5_ 0 (.iconst 0) 1 := by decide +kernel
theorem d7_1 : dc c5_ 1 (.istore_n 2) 1 := by decide +kernel
theorem d7_2 : dc c5_ 2 (.iconst 0) 1 := by decide +kernel
theorem d7_3 : dc c5_ 3 (.istore_n 3) 1 := by decide +kernel
theorem d7_4 : dc c5_ 4 (.iload_n 2) 1 := by decide +kernel
theorem d7_5 : dc c5_ 5 (.aload_n 0) 1 := by decide +kernel
theorem d7_6 : dc c5_ 6 (.invokevirtual 37) 3 := by decide +kernel
theorem d7_9 : dc c5_ 9 (.if_icmp .ge 59) 3 := by decide +kernel
theorem d7_12 : dc c5_ 12 (.iload_n 3) 1 := by decide +kernel
theorem d7_13 : dc c5_ 13 (.aload_n 1) 1 := by decide +kernel
theorem d7_14 : dc c5_ 14 (.invokevirtual 37) 3 := by decide +kernel
theorem d7_17 : dc c5_ 17 (.if_icmp .ge 51) 3 := by decide +kernel
theorem d7_20 : dc c5_ 20 (.aload_n 0) 1 := by decide +kernel
theorem d7_21 : dc c5_ 21 (.iload_n 2) 1 := by decide +kernel
theorem d7_22 : dc c5_ 22 (.invokevirtual 58) 3 := by decide +kernel
theorem d7_25 : dc c5_ 25 (.istore 4) 2 := by decide +kernel
theorem d7_27 : dc c5_ 27 (.aload_n 1) 1 := by decide +kernel
theorem d7_28 : dc c5_ 28 (.iload_n 3) 1 := by decide +kernel
theorem d7_29 : dc c5_ 29 (.invokevirtual 58) 3 := by decide +kernel
theorem d7_32 : dc c5_ 32 (.istore 5) 2 := by decide +kernel
theorem d7_34 : dc c5_ 34 (.iload 4) 2 := by decide +kernel
theorem d7_36 : dc c5_ 36 (.iload 5) 2 := by decide +kernel
theorem d7_38 : dc c5_ 38 (.if_icmp .eq 11) 3 := by decide +kernel
theorem d7_41 : dc c5_ 41 (.iload 4) 2 := by decide +kernel
theorem d7_43 : dc c5_ 43 (.iload 5) 2 := by decide +kernel
theorem d7_45 : dc c5_ 45 (.invokestatic 62) 3 := by decide +kernel
theorem d7_48 : dc c5_ 48 (.ireturn) 1 := by decide +kernel
theorem d7_49 : dc c5_ 49 (.iload_n 2) 1 := by decide +kernel
theorem d7_50 : dc c5_ 50 (.iload 4) 2 := by decide +kernel
theorem d7_52 : dc c5_ 52 (.invokestatic 68) 3 := by decide +kernel
theorem d7_55 : dc c5_ 55 (.iadd) 1 := by decide +kernel
theorem d7_56 : dc c5_ 56 (.istore_n 2) 1 := by decide +kernel
theorem d7_57 : dc c5_ 57 (.iload_n 3) 1 := by decide +kernel
theorem d7_58 : dc c5_ 58 (.iload 5) 2 := by decide +kernel
theorem d7_60 : dc c5_ 60 (.invokestatic 68) 3 := by decide +kernel
theorem d7_63 : dc c5_ 63 (.iadd) 1 := by decide +kernel
theorem d7_64 : dc c5_ 64 (.istore_n 3) 1 := by decide +kernel
theorem d7_65 : dc c5_ 65 (.goto (-61)) 3 := by decide +kernel
theorem d7_68 : dc c5_ 68 (.aload_n 0) 1 := by decide +kernel
theorem d7_69 : dc c5_ 69 (.invokevirtual 37) 3 := by decide +kernel
theorem d7_72 : dc c5_ 72 (.iload_n 2) 1 := by decide +kernel
theorem d7_73 : dc c5_ 73 (.isub) 1 := by decide +kernel
theorem d7_74 : dc c5_ 74 (.aload_n 1) 1 := by decide +kernel
theorem d7_75 : dc c5_ 75 (.invokevirtual 37) 3 := by decide +kernel
theorem d7_78 : dc c5_ 78 (.iload_n 3) 1 := by decide +kernel
theorem d7_79 : dc c5_ 79 (.isub) 1 := by decide +kernel
theorem d7_80 : dc c5_ 80 (.invokestatic 62) 3 := by decide +kernel
theorem d7_83 : dc c5_ 83 (.ireturn) 1 := by decide +kernel
theorem d8_0 : dc c6_ 0 (.aload_n 0) 1 := by decide +kernel
theorem d8_1 : dc c6_ 1 (.getfield 9) 3 := by decide +kernel
theorem d8_4 : dc c6_ 4 (.arraylength) 1 := by decide +kernel
theorem d8_5 : dc c6_ 5 (.aload_n 0) 1 := by decide +kernel
theorem d8_6 : dc c6_ 6 (.invokevirtual 335) 3 := by decide +kernel
theorem d8_9 : dc c6_ 9 (.ishr) 1 := by decide +kernel
theorem d8_10 : dc c6_ 10 (.ireturn) 1 := by decide +kernel
theorem d9_0 : dc c7_ 0 (.getstatic 38) 3 := by decide +kernel
theorem d9_3 : dc c7_ 3 (.ifCond .eq 10) 3 := by decide +kernel
theorem d9_6 : dc c7_ 6 (.aload_n 0) 1 := by decide +kernel
theorem d9_7 : dc c7_ 7 (.getfield 15) 3 := by decide +kernel
theorem d9_10 : dc c7_ 10 (.goto 4) 3 := by decide +kernel
theorem d9_14 : dc c7_ 14 (.ireturn) 1 := by decide +kernel
theorem d10_0 : dc c8_ 0 (.iload_n 0) 1 := by decide +kernel
theorem d10_1 : dc c8_ 1 (.iload_n 1) 1 := by decide +kernel
theorem d10_2 : dc c8_ 2 (.if_icmp .ge 7) 3 := by decide +kernel
theorem d10_5 : dc c8_ 5 (.iconst (-1)) 1 := by decide +kernel
theorem d10_6 : dc c8_ 6 (.goto 13) 3 := by decide +kernel
theorem d10_9 : dc c8_ 9 (.iload_n 0) 1 := by decide +kernel
theorem d10_10 : dc c8_ 10 (.iload_n 1) 1 := by decide +kernel
theorem d10_11 : dc c8_ 11 (.if_icmp .ne 7) 3 := by decide +kernel
theorem d10_14 : dc c8_ 14 (.iconst 0) 1 := by decide +kernel
theorem d10_15 : dc c8_ 15 (.goto 4) 3 := by decide +kernel
theorem d10_18 : dc c8_ 18 (.iconst 1) 1 := by decide +kernel
theorem d10_19 : dc c8_ 19 (.ireturn) 1 := by decide +kernel
theorem d11_0 : dc c9_ 0 (.iload_n 0) 1 := by decide +kernel
theorem d11_1 : dc c9_ 1 (.ifCond .ge 7) 3 := by decide +kernel
theorem d11_4 : dc c9_ 4 (.iconst (-1)) 1 := by decide +kernel
theorem d11_5 : dc c9_ 5 (.goto 12) 3 := by decide +kernel
theorem d11_8 : dc c9_ 8 (.iload_n 0) 1 := by decide +kernel
theorem d11_9 : dc c9_ 9 (.ifCond .le 7) 3 := by decide +kernel
theorem d11_12 : dc c9_ 12 (.iconst 1) 1 := by decide +kernel
theorem d11_13 : dc c9_ 13 (.goto 4) 3 := by decide +kernel
theorem d11_16 : dc c9_ 16 (.iconst 0) 1 := by decide +kernel
theorem d11_17 : dc c9_ 17 (.ireturn) 1 := by decide +kernel
theorem d12_0 : dc c10_ 0 (.iload_n 2) 1 := by decide +kernel
theorem d12_1 : dc c10_ 1 (.newarray .byte) 2 := by decide +kernel
theorem d12_3 : dc c10_ 3 (.astore_n 3) 1 := by decide +kernel
theorem d12_4 : dc c10_ 4 (.aload_n 0) 1 := by decide +kernel
theorem d12_5 : dc c10_ 5 (.iload_n 1) 1 := by decide +kernel
theorem d12_6 : dc c10_ 6 (.aload_n 3) 1 := by decide +kernel
theorem d12_7 : dc c10_ 7 (.iconst 0) 1 := by decide +kernel
theorem d12_8 : dc c10_ 8 (.iload_n 2) 1 := by decide +kernel
theorem d12_9 : dc c10_ 9 (.invokestatic 115) 3 := by decide +kernel
theorem d12_12 : dc c10_ 12 (.istore 4) 2 := by decide +kernel
theorem d12_14 : dc c10_ 14 (.iload 4) 2 := by decide +kernel
theorem d12_16 : dc c10_ 16 (.iload_n 2) 1 := by decide +kernel
theorem d12_17 : dc c10_ 17 (.if_icmp .eq 40) 3 := by decide +kernel
theorem d12_20 : dc c10_ 20 (.aload_n 0) 1 := by decide +kernel
theorem d12_21 : dc c10_ 21 (.iload_n 1) 1 := by decide +kernel
theorem d12_22 : dc c10_ 22 (.iload_n 2) 1 := by decide +kernel
theorem d12_23 : dc c10_ 23 (.invokestatic 119) 3 := by decide +kernel
theorem d12_26 : dc c10_ 26 (.astore 5) 2 := by decide +kernel
theorem d12_28 : dc c10_ 28 (.aload 5) 2 := by decide +kernel
theorem d12_30 : dc c10_ 30 (.iload 4) 2 := by decide +kernel
theorem d12_32 : dc c10_ 32 (.invokestatic 71) 3 := by decide +kernel
theorem d12_35 : dc c10_ 35 (.sipush 255) 3 := by decide +kernel
theorem d12_38 : dc c10_ 38 (.if_icmp .gt 16) 3 := by decide +kernel
theorem d12_54 : dc c10_ 54 (.aload 5) 2 := by decide +kernel
theorem d12_56 : dc c10_ 56 (.areturn) 1 := by decide +kernel
theorem d12_57 : dc c10_ 57 (.aload_n 3) 1 := by decide +kernel
theorem d12_58 : dc c10_ 58 (.areturn) 1 := by decide +kernel
theorem d13_0 : dc c11_ 0 (.iconst 0) 1 := by decide +kernel
theorem d13_1 : dc c11_ 1 (.istore 5) 2 := by decide +kernel
theorem d13_3 : dc c11_ 3 (.iload 5) 2 := by decide +kernel
theorem d13_5 : dc c11_ 5 (.iload 4) 2 := by decide +kernel
theorem d13_7 : dc c11_ 7 (.if_icmp .ge 37) 3 := by decide +kernel
theorem d13_10 : dc c11_ 10 (.aload_n 0) 1 := by decide +kernel
theorem d13_11 : dc c11_ 11 (.iload_n 1) 1 := by decide +kernel
theorem d13_12 : dc c11_ 12 (.caload) 1 := by decide +kernel
theorem d13_13 : dc c11_ 13 (.istore 6) 2 := by decide +kernel
theorem d13_15 : dc c11_ 15 (.iload 6) 2 := by decide +kernel
theorem d13_17 : dc c11_ 17 (.sipush 255) 3 := by decide +kernel
theorem d13_20 : dc c11_ 20 (.if_icmp .le 6) 3 := by decide +kernel
theorem d13_23 : dc c11_ 23 (.iload 5) 2 := by decide +kernel
theorem d13_25 : dc c11_ 25 (.ireturn) 1 := by decide +kernel
theorem d13_26 : dc c11_ 26 (.aload_n 2) 1 := by decide +kernel
theorem d13_27 : dc c11_ 27 (.iload_n 3) 1 := by decide +kernel
theorem d13_28 : dc c11_ 28 (.iload 6) 2 := by decide +kernel
theorem d13_30 : dc c11_ 30 (.i2b) 1 := by decide +kernel
theorem d13_31 : dc c11_ 31 (.bastore) 1 := by decide +kernel
theorem d13_32 : dc c11_ 32 (.iinc 1 1) 3 := by decide +kernel
theorem d13_35 : dc c11_ 35 (.iinc 3 1) 3 := by decide +kernel
theorem d13_38 : dc c11_ 38 (.iinc 5 1) 3 := by decide +kernel
theorem d13_41 : dc c11_ 41 (.goto (-38)) 3 := by decide +kernel
theorem d13_44 : dc c11_ 44 (.iload 4) 2 := by decide +kernel
theorem d13_46 : dc c11_ 46 (.ireturn) 1 := by decide +kernel
theorem d14_0 : dc c12_ 0 (.iload_n 1) 1 := by decide +kernel
theorem d14_1 : dc c12_ 1 (.aload_n 0) 1 := by decide +kernel
theorem d14_2 : dc c12_ 2 (.arraylength) 1 := by decide +kernel
theorem d14_3 : dc c12_ 3 (.isub) 1 := by decide +kernel
theorem d14_4 : dc c12_ 4 (.bipush 31) 2 := by decide +kernel
theorem d14_6 : dc c12_ 6 (.iushr) 1 := by decide +kernel
theorem d14_7 : dc c12_ 7 (.i2b) 1 := by decide +kernel
theorem d14_8 : dc c12_ 8 (.ireturn) 1 := by decide +kernel
theorem d15_0 : dc c13_ 0 (.aload_n 0) 1 := by decide +kernel
theorem d15_1 : dc c13_ 1 (.invokevirtual 492) 3 := by decide +kernel
theorem d15_4 : dc c13_ 4 (.ifCond .eq 23) 3 := by decide +kernel
theorem d15_7 : dc c13_ 7 (.iload_n 1) 1 := by decide +kernel
theorem d15_8 : dc c13_ 8 (.aload_n 0) 1 := by decide +kernel
theorem d15_9 : dc c13_ 9 (.getfield 9) 3 := by decide +kernel
theorem d15_12 : dc c13_ 12 (.arraylength) 1 := by decide +kernel
theorem d15_13 : dc c13_ 13 (.invokestatic 499) 3 := by decide +kernel
theorem d15_16 : dc c13_ 16 (.aload_n 0) 1 := by decide +kernel
theorem d15_17 : dc c13_ 17 (.getfield 9) 3 := by decide +kernel
theorem d15_20 : dc c13_ 20 (.iload_n 1) 1 := by decide +kernel
theorem d15_21 : dc c13_ 21 (.baload) 1 := by decide +kernel
theorem d15_22 : dc c13_ 22 (.sipush 255) 3 := by decide +kernel
theorem d15_25 : dc c13_ 25 (.iand) 1 := by decide +kernel
theorem d15_26 : dc c13_ 26 (.ireturn) 1 := by decide +kernel
theorem d15_27 : dc c13_ 27 (.aload_n 0) 1 := by decide +kernel
theorem d15_28 : dc c13_ 28 (.getfield 9) 3 := by decide +kernel
theorem d15_31 : dc c13_ 31 (.arraylength) 1 := by decide +kernel
theorem d15_32 : dc c13_ 32 (.iconst 1) 1 := by decide +kernel
theorem d15_33 : dc c13_ 33 (.ishr) 1 := by decide +kernel
theorem d15_34 : dc c13_ 34 (.istore_n 2) 1 := by decide +kernel
theorem d15_35 : dc c13_ 35 (.iload_n 1) 1 := by decide +kernel
theorem d15_36 : dc c13_ 36 (.iload_n 2) 1 := by decide +kernel
theorem d15_37 : dc c13_ 37 (.invokestatic 499) 3 := by decide +kernel
theorem d15_40 : dc c13_ 40 (.aload_n 0) 1 := by decide +kernel
theorem d15_41 : dc c13_ 41 (.getfield 9) 3 := by decide +kernel
theorem d15_44 : dc c13_ 44 (.iload_n 1) 1 := by decide +kernel
theorem d15_45 : dc c13_ 45 (.iload_n 2) 1 := by decide +kernel
theorem d15_46 : dc c13_ 46 (.invokestatic 502) 3 := by decide +kernel
theorem d15_49 : dc c13_ 49 (.ireturn) 1 := by decide +kernel
theorem d16_0 : dc c14_ 0 (.getstatic 38) 3 := by decide +kernel
theorem d16_3 : dc c14_ 3 (.ifCond .eq 14) 3 := by decide +kernel
theorem d16_6 : dc c14_ 6 (.aload_n 0) 1 := by decide +kernel
theorem d16_7 : dc c14_ 7 (.getfield 15) 3 := by decide +kernel
theorem d16_10 : dc c14_ 10 (.ifCond .ne 7) 3 := by decide +kernel
theorem d16_13 : dc c14_ 13 (.iconst 1) 1 := by decide +kernel
theorem d16_14 : dc c14_ 14 (.goto 4) 3 := by decide +kernel
theorem d16_17 : dc c14_ 17 (.iconst 0) 1 := by decide +kernel
theorem d16_18 : dc c14_ 18 (.ireturn) 1 := by decide +kernel
theorem d17_0 : dc c15_ 0 (.iload_n 0) 1 := by decide +kernel
theorem d17_1 : dc c15_ 1 (.iload_n 1) 1 := by decide +kernel
theorem d17_2 : dc c15_ 2 (.getstatic 1053) 3 := by decide +kernel
theorem d17_5 : dc c15_ 5 (.invokestatic 1059) 3 := by decide +kernel
theorem d17_8 : dc c15_ 8 (.pop) 1 := by decide +kernel
theorem d17_9 : dc c15_ 9 (.return_) 1 := by decide +kernel
theorem d18_0 : dc c16_ 0 (.iload_n 0) 1 := by decide +kernel
theorem d18_1 : dc c16_ 1 (.ifCond .lt 8) 3 := by decide +kernel
theorem d18_4 : dc c16_ 4 (.iload_n 0) 1 := by decide +kernel
theorem d18_5 : dc c16_ 5 (.iload_n 1) 1 := by decide +kernel
theorem d18_6 : dc c16_ 6 (.if_icmp .lt 10) 3 := by decide +kernel
theorem d18_16 : dc c16_ 16 (.iload_n 0) 1 := by decide +kernel
theorem d18_17 : dc c16_ 17 (.ireturn) 1 := by decide +kernel
theorem d19_0 : dc c17_ 0 (.ldc 9) 2 := by decide +kernel
theorem d19_2 : dc c17_ 2 (.iload_n 0) 1 := by decide +kernel
theorem d19_3 : dc c17_ 3 (.ldc 11) 2 := by decide +kernel
theorem d19_5 : dc c17_ 5 (.isub) 1 := by decide +kernel
theorem d19_6 : dc c17_ 6 (.bipush 10) 2 := by decide +kernel
theorem d19_8 : dc c17_ 8 (.iushr) 1 := by decide +kernel
theorem d19_9 : dc c17_ 9 (.iadd) 1 := by decide +kernel
theorem d19_10 : dc c17_ 10 (.i2c) 1 := by decide +kernel
theorem d19_11 : dc c17_ 11 (.ireturn) 1 := by decide +kernel
theorem d20_0 : dc c18_ 0 (.ldc 12) 2 := by decide +kernel
theorem d20_2 : dc c18_ 2 (.iload_n 0) 1 := by decide +kernel
theorem d20_3 : dc c18_ 3 (.ldc 11) 2 := by decide +kernel
theorem d20_5 : dc c18_ 5 (.isub) 1 := by decide +kernel
theorem d20_6 : dc c18_ 6 (.sipush 1023) 3 := by decide +kernel
theorem d20_9 : dc c18_ 9 (.iand) 1 := by decide +kernel
theorem d20_10 : dc c18_ 10 (.iadd) 1 := by decide +kernel
theorem d20_11 : dc c18_ 11 (.i2c) 1 := by decide +kernel
theorem d20_12 : dc c18_ 12 (.ireturn) 1 := by decide +kernel
theorem d21_0 : dc c19_ 0 (.iload_n 2) 1 := by decide +kernel
theorem d21_1 : dc c19_ 1 (.invokestatic 107) 3 := by decide +kernel
theorem d21_4 : dc c19_ 4 (.astore_n 3) 1 := by decide +kernel
theorem d21_5 : dc c19_ 5 (.iconst 0) 1 := by decide +kernel
theorem d21_6 : dc c19_ 6 (.istore 4) 2 := by decide +kernel
theorem d21_8 : dc c19_ 8 (.iload 4) 2 := by decide +kernel
theorem d21_10 : dc c19_ 10 (.iload_n 2) 1 := by decide +kernel
theorem d21_11 : dc c19_ 11 (.if_icmp .ge 21) 3 := by decide +kernel
theorem d21_14 : dc c19_ 14 (.aload_n 3) 1 := by decide +kernel
theorem d21_15 : dc c19_ 15 (.iload 4) 2 := by decide +kernel
theorem d21_17 : dc c19_ 17 (.aload_n 0) 1 := by decide +kernel
theorem d21_18 : dc c19_ 18 (.iload_n 1) 1 := by decide +kernel
theorem d21_19 : dc c19_ 19 (.caload) 1 := by decide +kernel
theorem d21_20 : dc c19_ 20 (.invokestatic 111) 3 := by decide +kernel
theorem d21_23 : dc c19_ 23 (.iinc 1 1) 3 := by decide +kernel
theorem d21_26 : dc c19_ 26 (.iinc 4 1) 3 := by decide +kernel
theorem d21_29 : dc c19_ 29 (.goto (-21)) 3 := by decide +kernel
theorem d21_32 : dc c19_ 32 (.aload_n 3) 1 := by decide +kernel
theorem d21_33 : dc c19_ 33 (.areturn) 1 := by decide +kernel
theorem d22_0 : dc c20_ 0 (.iload_n 0) 1 := by decide +kernel
theorem d22_1 : dc c20_ 1 (.invokestatic 11) 3 := by decide +kernel
theorem d22_4 : dc c20_ 4 (.newarray .byte) 2 := by decide +kernel
theorem d22_6 : dc c20_ 6 (.areturn) 1 := by decide +kernel
theorem d23_0 : dc c21_ 0 (.iload_n 0) 1 := by decide +kernel
theorem d23_1 : dc c21_ 1 (.ifCond .ge 11) 3 := by decide +kernel
theorem d23_12 : dc c21_ 12 (.iload_n 0) 1 := by decide +kernel
theorem d23_13 : dc c21_ 13 (.ldc 20) 2 := by decide +kernel
theorem d23_15 : dc c21_ 15 (.if_icmp .lt 40) 3 := by decide +kernel
theorem d23_55 : dc c21_ 55 (.iload_n 0) 1 := by decide +kernel
theorem d23_56 : dc c21_ 56 (.iconst 1) 1 := by decide +kernel
theorem d23_57 : dc c21_ 57 (.ishl) 1 := by decide +kernel
theorem d23_58 : dc c21_ 58 (.ireturn) 1 := by decide +kernel
theorem d24_0 : dc c22_ 0 (.getstatic 44) 3 := by decide +kernel
theorem d24_3 : dc c22_ 3 (.ifCond .ne 25) 3 := by decide +kernel
theorem d24_28 : dc c22_ 28 (.iload_n 1) 1 := by decide +kernel
theorem d24_29 : dc c22_ 29 (.iconst 1) 1 := by decide +kernel
theorem d24_30 : dc c22_ 30 (.ishl) 1 := by decide +kernel
theorem d24_31 : dc c22_ 31 (.istore_n 1) 1 := by decide +kernel
theorem d24_32 : dc c22_ 32 (.aload_n 0) 1 := by decide +kernel
theorem d24_33 : dc c22_ 33 (.iload_n 1) 1 := by decide +kernel
theorem d24_34 : dc c22_ 34 (.iinc 1 1) 3 := by decide +kernel
theorem d24_37 : dc c22_ 37 (.iload_n 2) 1 := by decide +kernel
theorem d24_38 : dc c22_ 38 (.getstatic 59) 3 := by decide +kernel
theorem d24_41 : dc c22_ 41 (.ishr) 1 := by decide +kernel
theorem d24_42 : dc c22_ 42 (.i2b) 1 := by decide +kernel
theorem d24_43 : dc c22_ 43 (.bastore) 1 := by decide +kernel
theorem d24_44 : dc c22_ 44 (.aload_n 0) 1 := by decide +kernel
theorem d24_45 : dc c22_ 45 (.iload_n 1) 1 := by decide +kernel
theorem d24_46 : dc c22_ 46 (.iload_n 2) 1 := by decide +kernel
theorem d24_47 : dc c22_ 47 (.getstatic 63) 3 := by decide +kernel
theorem d24_50 : dc c22_ 50 (.ishr) 1 := by decide +kernel
theorem d24_51 : dc c22_ 51 (.i2b) 1 := by decide +kernel
theorem d24_52 : dc c22_ 52 (.bastore) 1 := by decide +kernel
theorem d24_53 : dc c22_ 53 (.return_) 1 := by decide +kernel
theorem d25_0 : dc c23_ 0 (.getstatic 44) 3 := by decide +kernel
theorem d25_3 : dc c23_ 3 (.ifCond .ne 25) 3 := by decide +kernel
theorem d25_28 : dc c23_ 28 (.iload_n 1) 1 := by decide +kernel
theorem d25_29 : dc c23_ 29 (.iconst 1) 1 := by decide +kernel
theorem d25_30 : dc c23_ 30 (.ishl) 1 := by decide +kernel
theorem d25_31 : dc c23_ 31 (.istore_n 1) 1 := by decide +kernel
theorem d25_32 : dc c23_ 32 (.aload_n 0) 1 := by decide +kernel
theorem d25_33 : dc c23_ 33 (.iload_n 1) 1 := by decide +kernel
theorem d25_34 : dc c23_ 34 (.iinc 1 1) 3 := by decide +kernel
theorem d25_37 : dc c23_ 37 (.baload) 1 := by decide +kernel
theorem d25_38 : dc c23_ 38 (.sipush 255) 3 := by decide +kernel
theorem d25_41 : dc c23_ 41 (.iand) 1 := by decide +kernel
theorem d25_42 : dc c23_ 42 (.getstatic 59) 3 := by decide +kernel
theorem d25_45 : dc c23_ 45 (.ishl) 1 := by decide +kernel
theorem d25_46 : dc c23_ 46 (.aload_n 0) 1 := by decide +kernel
theorem d25_47 : dc c23_ 47 (.iload_n 1) 1 := by decide +kernel
theorem d25_48 : dc c23_ 48 (.baload) 1 := by decide +kernel
theorem d25_49 : dc c23_ 49 (.sipush 255) 3 := by decide +kernel
theorem d25_52 : dc c23_ 52 (.iand) 1 := by decide +kernel
theorem d25_53 : dc c23_ 53 (.getstatic 63) 3 := by decide +kernel
theorem d25_56 : dc c23_ 56 (.ishl) 1 := by decide +kernel
theorem d25_57 : dc c23_ 57 (.ior) 1 := by decide +kernel
theorem d25_58 : dc c23_ 58 (.i2c) 1 := by decide +kernel
theorem d25_59 : dc c23_ 59 (.ireturn) 1 := by decide +kernel
theorem d26_0 : dc c24_ 0 (.iload_n 0) 1 := by decide +kernel
theorem d26_1 : dc c24_ 1 (.ldc 73) 2 := by decide +kernel
theorem d26_3 : dc c24_ 3 (.if_icmp .lt 7) 3 := by decide +kernel
theorem d26_6 : dc c24_ 6 (.iconst 2) 1 := by decide +kernel
theorem d26_7 : dc c24_ 7 (.goto 4) 3 := by decide +kernel
theorem d26_10 : dc c24_ 10 (.iconst 1) 1 := by decide +kernel
theorem d26_11 : dc c24_ 11 (.ireturn) 1 := by decide +kernel
theorem d27_0 : dc c25_ 0 (.aload_n 0) 1 := by decide +kernel
theorem d27_1 : dc c25_ 1 (.iload_n 1) 1 := by decide +kernel
theorem d27_2 : dc c25_ 2 (.iload_n 2) 1 := by decide +kernel
theorem d27_3 : dc c25_ 3 (.iconst 0) 1 := by decide +kernel
theorem d27_4 : dc c25_ 4 (.invokestatic 88) 3 := by decide +kernel
theorem d27_7 : dc c25_ 7 (.ireturn) 1 := by decide +kernel
theorem d28_0 : dc c26_ 0 (.getstatic 44) 3 := by decide +kernel
theorem d28_3 : dc c26_ 3 (.ifCond .ne 16) 3 := by decide +kernel
theorem d28_19 : dc c26_ 19 (.iload_n 3) 1 := by decide +kernel
theorem d28_20 : dc c26_ 20 (.ifCond .eq 8) 3 := by decide +kernel
theorem d28_28 : dc c26_ 28 (.aload_n 0) 1 := by decide +kernel
theorem d28_29 : dc c26_ 29 (.iload_n 1) 1 := by decide +kernel
theorem d28_30 : dc c26_ 30 (.invokestatic 71) 3 := by decide +kernel
theorem d28_33 : dc c26_ 33 (.istore 4) 2 := by decide +kernel
theorem d28_35 : dc c26_ 35 (.iload 4) 2 := by decide +kernel
theorem d28_37 : dc c26_ 37 (.invokestatic 75) 3 := by decide +kernel
theorem d28_40 : dc c26_ 40 (.ifCond .eq 43) 3 := by decide +kernel
theorem d28_43 : dc c26_ 43 (.iinc 1 1) 3 := by decide +kernel
theorem d28_46 : dc c26_ 46 (.iload_n 1) 1 := by decide +kernel
theorem d28_47 : dc c26_ 47 (.iload_n 2) 1 := by decide +kernel
theorem d28_48 : dc c26_ 48 (.if_icmp .ge 35) 3 := by decide +kernel
theorem d28_51 : dc c26_ 51 (.iload_n 3) 1 := by decide +kernel
theorem d28_52 : dc c26_ 52 (.ifCond .eq 8) 3 := by decide +kernel
theorem d28_60 : dc c26_ 60 (.aload_n 0) 1 := by decide +kernel
theorem d28_61 : dc c26_ 61 (.iload_n 1) 1 := by decide +kernel
theorem d28_62 : dc c26_ 62 (.invokestatic 71) 3 := by decide +kernel
theorem d28_65 : dc c26_ 65 (.istore 5) 2 := by decide +kernel
theorem d28_67 : dc c26_ 67 (.iload 5) 2 := by decide +kernel
theorem d28_69 : dc c26_ 69 (.invokestatic 81) 3 := by decide +kernel
theorem d28_72 : dc c26_ 72 (.ifCond .eq 11) 3 := by decide +kernel
theorem d28_75 : dc c26_ 75 (.iload 4) 2 := by decide +kernel
theorem d28_77 : dc c26_ 77 (.iload 5) 2 := by decide +kernel
theorem d28_79 : dc c26_ 79 (.invokestatic 84) 3 := by decide +kernel
theorem d28_82 : dc c26_ 82 (.ireturn) 1 := by decide +kernel
theorem d28_83 : dc c26_ 83 (.iload 4) 2 := by decide +kernel
theorem d28_85 : dc c26_ 85 (.ireturn) 1 := by decide +kernel
theorem d29_0 : dc c27_ 0 (.iload_n 0) 1 := by decide +kernel
theorem d29_1 : dc c27_ 1 (.ldc 75) 2 := by decide +kernel
theorem d29_3 : dc c27_ 3 (.if_icmp .lt 13) 3 := by decide +kernel
theorem d29_6 : dc c27_ 6 (.iload_n 0) 1 := by decide +kernel
theorem d29_7 : dc c27_ 7 (.ldc 76) 2 := by decide +kernel
theorem d29_9 : dc c27_ 9 (.if_icmp .ge 7) 3 := by decide +kernel
theorem d29_12 : dc c27_ 12 (.iconst 1) 1 := by decide +kernel
theorem d29_13 : dc c27_ 13 (.goto 4) 3 := by decide +kernel
theorem d29_16 : dc c27_ 16 (.iconst 0) 1 := by decide +kernel
theorem d29_17 : dc c27_ 17 (.ireturn) 1 := by decide +kernel
theorem d30_0 : dc c28_ 0 (.iload_n 0) 1 := by decide +kernel
theorem d30_1 : dc c28_ 1 (.ldc 76) 2 := by decide +kernel
theorem d30_3 : dc c28_ 3 (.if_icmp .lt 13) 3 := by decide +kernel
theorem d30_6 : dc c28_ 6 (.iload_n 0) 1 := by decide +kernel
theorem d30_7 : dc c28_ 7 (.ldc 77) 2 := by decide +kernel
theorem d30_9 : dc c28_ 9 (.if_icmp .ge 7) 3 := by decide +kernel
theorem d30_12 : dc c28_ 12 (.iconst 1) 1 := by decide +kernel
theorem d30_13 : dc c28_ 13 (.goto 4) 3 := by decide +kernel
theorem d30_16 : dc c28_ 16 (.iconst 0) 1 := by decide +kernel
theorem d30_17 : dc c28_ 17 (.ireturn) 1 := by decide +kernel
theorem d31_0 : dc c29_ 0 (.iload_n 0) 1 := by decide +kernel
theorem d31_1 : dc c29_ 1 (.bipush 10) 2 := by decide +kernel
theorem d31_3 : dc c29_ 3 (.ishl) 1 := by decide +kernel
theorem d31_4 : dc c29_ 4 (.iload_n 1) 1 := by decide +kernel
theorem d31_5 : dc c29_ 5 (.iadd) 1 := by decide +kernel
theorem d31_6 : dc c29_ 6 (.ldc 85) 2 := by decide +kernel
theorem d31_8 : dc c29_ 8 (.iadd) 1 := by decide +kernel
theorem d31_9 : dc c29_ 9 (.ireturn) 1 := by decide +kernel
theorem pd0 : parseMethodDescriptor "(IZ)I" = some ⟨[.int, .boolean], some .int⟩ := by decide +kernel
theorem pd1 : parseMethodDescriptor "([CIILjava/lang/Void;)V" = some ⟨[(.array .char), .int, .int, (.object "java/lang/Void")], none⟩ := by decide +kernel
theorem pd2 : parseMethodDescriptor "([C)V" = some ⟨[(.array .char)], none⟩ := by decide +kernel
theorem pd3 : parseMethodDescriptor "()B" = some ⟨[], some .byte⟩ := by decide +kernel
theorem pd4 : parseMethodDescriptor "(III)Ljava/lang/String;" = some ⟨[.int, .int, .int], some (.object "java/lang/String")⟩ := by decide +kernel
theorem pd5 : parseMethodDescriptor "(II)I" = some ⟨[.int, .int], some .int⟩ := by decide +kernel
theorem pd6 : parseMethodDescriptor "()I" = some ⟨[], some .int⟩ := by decide +kernel
theorem pd7 : parseMethodDescriptor "(Ljava/lang/String;Ljava/lang/String;)I" = some ⟨[(.object "java/lang/String"), (.object "java/lang/String")], some .int⟩ := by decide +kernel
theorem pd8 : parseMethodDescriptor "(I)I" = some ⟨[.int], some .int⟩ := by decide +kernel
theorem pd9 : parseMethodDescriptor "([CI[BII)I" = some ⟨[(.array .char), .int, (.array .byte), .int, .int], some .int⟩ := by decide +kernel
theorem pd10 : parseMethodDescriptor "([CII)[B" = some ⟨[(.array .char), .int, .int], some (.array .byte)⟩ := by decide +kernel
theorem pd11 : parseMethodDescriptor "([BI)B" = some ⟨[(.array .byte), .int], some .byte⟩ := by decide +kernel
theorem pd12 : parseMethodDescriptor "()Z" = some ⟨[], some .boolean⟩ := by decide +kernel
theorem pd13 : parseMethodDescriptor "(IILjava/util/function/BiFunction;)I" = some ⟨[.int, .int, (.object "java/util/function/BiFunction")], some .int⟩ := by decide +kernel
theorem pd14 : parseMethodDescriptor "(II)V" = some ⟨[.int, .int], none⟩ := by decide +kernel
theorem pd15 : parseMethodDescriptor "(I)[B" = some ⟨[.int], some (.array .byte)⟩ := by decide +kernel
theorem pd16 : parseMethodDescriptor "([BII)V" = some ⟨[(.array .byte), .int, .int], none⟩ := by decide +kernel
theorem pd17 : parseMethodDescriptor "([BI)C" = some ⟨[(.array .byte), .int], some .char⟩ := by decide +kernel
theorem pd18 : parseMethodDescriptor "(C)Z" = some ⟨[.char], some .boolean⟩ := by decide +kernel
theorem pd19 : parseMethodDescriptor "([BIIZ)I" = some ⟨[(.array .byte), .int, .int, .boolean], some .int⟩ := by decide +kernel
theorem pd20 : parseMethodDescriptor "([BII)I" = some ⟨[(.array .byte), .int, .int], some .int⟩ := by decide +kernel
theorem pd21 : parseMethodDescriptor "(I)C" = some ⟨[.int], some .char⟩ := by decide +kernel
theorem pd22 : parseMethodDescriptor "(CC)I" = some ⟨[.char, .char], some .int⟩ := by decide +kernel
theorem pn0 : plainName "com/example/countersign/countersign/Utf8ComparePinLaw" = true := by first | (simp [plainName, overriddenIn]; done) | decide +kernel
theorem pn1 : plainName "java/lang/Character" = true := by first | (simp [plainName, overriddenIn]; done) | decide +kernel
theorem pn2 : plainName "java/lang/String" = true := by first | (simp [plainName, overriddenIn]; done) | decide +kernel
theorem pn3 : plainName "java/lang/Integer" = true := by first | (simp [plainName, overriddenIn]; done) | decide +kernel
theorem pn4 : plainName "com/example/countersign/countersign/Utf8" = true := by first | (simp [plainName, overriddenIn]; done) | decide +kernel
theorem pn5 : plainName "java/lang/StringUTF16" = true := by first | (simp [plainName, overriddenIn]; done) | decide +kernel
theorem pn6 : plainName "jdk/internal/util/Preconditions" = true := by first | (simp [plainName, overriddenIn]; done) | decide +kernel
theorem rm1 (l : Launch) {Z a0} (hw : HW Z a0) (x1 : Int32) (h0 : Heap) (O0 : Old Z Z.heap.size h0) :
    CtrN l Z mn2 method_5_code 1 (some .char) [] (⟨0, 0, 0, 0⟩ : Room) #[(.int x1)] h0 [] (fun v h => v = some (.int (own_hi x1))) := by
  refine CtrN.intro (L0 := #[vi x1]) (plainFor_of_name pn0) O0 (own_entry rfl) ?_
  intro p e s m below meth c T0 hy hml hret hlk hnm W0
  refine o_ldcI W0 (w6 hw) 2 (hb hy d19_0) rfl <| o_iloadN W0 3 (hb hy d19_2) rfl rfl <| o_ldcI W0 (w57 hw) 5 (hb hy d19_3) rfl <| o_isub W0 (v := (x1 - 65536)) 6 (hb hy d19_5) rfl rfl <| o_bipush W0 (v := 10) 8 (hb hy d19_6) (by decide) rfl <| o_iushr W0 (v := (((x1 - 65536).toUInt32 >>> ((10 : Int32) &&& 31).toUInt32).toInt32)) 9 (hb hy d19_8) rfl rfl ?_
  refine o_iadd W0 (v := ((55296 : Int32) + (((x1 - 65536).toUInt32 >>> ((10 : Int32) &&& 31).toUInt32).toInt32))) 10 (hb hy d19_9) rfl rfl <| o_i2c W0 (v := (((55296 : Int32) + (((x1 - 65536).toUInt32 >>> ((10 : Int32) &&& 31).toUInt32).toInt32)).toUInt32.toUInt16.toUInt32.toInt32)) 11 (hb hy d19_10) rfl rfl ?_
  exact o_retN W0 hlk (t := .char) hret (by simp) (z' := (((55296 : Int32) + (((x1 - 65536).toUInt32 >>> ((10 : Int32) &&& 31).toUInt32).toInt32)).toUInt32.toUInt16.toUInt32.toInt32)) (own_i2cc (own_cc _)) (hb hy d19_11) (by decide) (by decide) rfl
theorem rm2 (l : Launch) {Z a0} (hw : HW Z a0) (x1 : Int32) (h0 : Heap) (O0 : Old Z Z.heap.size h0) :
    CtrN l Z mn3 method_6_code 1 (some .char) [] (⟨0, 0, 0, 0⟩ : Room) #[(.int x1)] h0 [] (fun v h => v = some (.int (own_lo x1))) := by
  refine CtrN.intro (L0 := #[vi x1]) (plainFor_of_name pn0) O0 (own_entry rfl) ?_
  intro p e s m below meth c T0 hy hml hret hlk hnm W0
  refine o_ldcI W0 (w93 hw) 2 (hb hy d20_0) rfl <| o_iloadN W0 3 (hb hy d20_2) rfl rfl <| o_ldcI W0 (w57 hw) 5 (hb hy d20_3) rfl <| o_isub W0 (v := (x1 - 65536)) 6 (hb hy d20_5) rfl rfl <| o_sipush W0 (v := 1023) 9 (hb hy d20_6) (by decide) rfl <| o_iand W0 (v := ((x1 - 65536) &&& 1023)) 10 (hb hy d20_9) rfl rfl ?_
  refine o_iadd W0 (v := ((56320 : Int32) + ((x1 - 65536) &&& 1023))) 11 (hb hy d20_10) rfl rfl <| o_i2c W0 (v := (((56320 : Int32) + ((x1 - 65536) &&& 1023)).toUInt32.toUInt16.toUInt32.toInt32)) 12 (hb hy d20_11) rfl rfl ?_
  exact o_retN W0 hlk (t := .char) hret (by simp) (z' := (((56320 : Int32) + ((x1 - 65536) &&& 1023)).toUInt32.toUInt16.toUInt32.toInt32)) (own_i2cc (own_cc _)) (hb hy d20_12) (by decide) (by decide) rfl
theorem rm3 (l : Launch) {Z a0} (hw : HW Z a0) (x1 : Int32) (h0 : Heap) (O0 : Old Z Z.heap.size h0) :
    CtrN l Z mn4 jdk_89_method_18_code 1 (some .int) [] (⟨0, 0, 0, 0⟩ : Room) #[(.int x1)] h0 [] (fun v h => v = some (.int (own_cn x1))) := by
  refine CtrN.intro (L0 := #[vi x1]) (plainFor_of_name pn1) O0 (own_entry rfl) ?_
  intro p e s m below meth c T0 hy hml hret hlk hnm W0
  refine o_iloadN W0 1 (hb hy d26_0) rfl rfl <| o_ldcI W0 (w117 hw) 3 (hb hy d26_1) rfl ?_
  by_cases hq1 : x1 < (65536 : Int32)
  · refine o_icmpY W0 10 (hb hy d26_3) (XT.ii_lt_t hq1) (by decide) rfl <| o_iconst W0 (v := 1) 11 (hb hy d26_10) rfl rfl ?_
    exact o_retI W0 hlk hret (hb hy d26_11) (by decide) (by decide) (by simp [own_cn, hq1])
  · refine o_icmpN W0 6 (hb hy d26_3) (XT.ii_lt_f hq1) rfl <| o_iconst W0 (v := 2) 7 (hb hy d26_6) rfl rfl <| o_goto W0 11 (hb hy d26_7) (by decide) rfl ?_
    exact o_retI W0 hlk hret (hb hy d26_11) (by decide) (by decide) (by simp [own_cn, hq1])
theorem rm4 (l : Launch) {Z a0} (hw : HW Z a0) (x1 : Int32) (h0 : Heap) (O0 : Old Z Z.heap.size h0) :
    CtrN l Z mn5 jdk_89_method_14_code 1 (some .boolean) [] (⟨0, 0, 0, 0⟩ : Room) #[(.int x1)] h0 [] (fun v h => v = some (.int (own_hs x1))) := by
  refine CtrN.intro (L0 := #[vi x1]) (plainFor_of_name pn1) O0 (own_entry rfl) ?_
  intro p e s m below meth c T0 hy hml hret hlk hnm W0
  refine o_iloadN W0 1 (hb hy d29_0) rfl rfl <| o_ldcI W0 (w127 hw) 3 (hb hy d29_1) rfl ?_
  by_cases hq1 : x1 < (55296 : Int32)
  · refine o_icmpY W0 16 (hb hy d29_3) (XT.ii_lt_t hq1) (by decide) rfl <| o_iconst W0 (v := 0) 17 (hb hy d29_16) rfl rfl ?_
    exact o_retN W0 hlk (t := .boolean) hret (by simp) (z' := (0 : Int32)) (by decide) (hb hy d29_17) (by decide) (by decide) (by simp [own_hs, hq1])
  · refine o_icmpN W0 6 (hb hy d29_3) (XT.ii_lt_f hq1) rfl <| o_iloadN W0 7 (hb hy d29_6) rfl rfl <| o_ldcI W0 (w128 hw) 9 (hb hy d29_7) rfl ?_
    rcases (Classical.em (x1 < (56320 : Int32))).symm with hq2 | hq2
    · refine o_icmpY W0 16 (hb hy d29_9) (XT.ii_ge_t hq2) (by decide) rfl <| o_iconst W0 (v := 0) 17 (hb hy d29_16) rfl rfl ?_
      exact o_retN W0 hlk (t := .boolean) hret (by simp) (z' := (0 : Int32)) (by decide) (hb hy d29_17) (by decide) (by decide) (by simp [own_hs, hq1, hq2])
    · refine o_icmpN W0 12 (hb hy d29_9) (XT.ii_ge_f hq2) rfl <| o_iconst W0 (v := 1) 13 (hb hy d29_12) rfl rfl <| o_goto W0 17 (hb hy d29_13) (by decide) rfl ?_
      exact o_retN W0 hlk (t := .boolean) hret (by simp) (z' := (1 : Int32)) (by decide) (hb hy d29_17) (by decide) (by decide) (by simp [own_hs, hq1, hq2])
theorem rm5 (l : Launch) {Z a0} (hw : HW Z a0) (x1 : Int32) (h0 : Heap) (O0 : Old Z Z.heap.size h0) :
    CtrN l Z mn6 jdk_89_method_15_code 1 (some .boolean) [] (⟨0, 0, 0, 0⟩ : Room) #[(.int x1)] h0 [] (fun v h => v = some (.int (own_ls x1))) := by
  refine CtrN.intro (L0 := #[vi x1]) (plainFor_of_name pn1) O0 (own_entry rfl) ?_
  intro p e s m below meth c T0 hy hml hret hlk hnm W0
  refine o_iloadN W0 1 (hb hy d30_0) rfl rfl <| o_ldcI W0 (w128 hw) 3 (hb hy d30_1) rfl ?_
  by_cases hq1 : x1 < (56320 : Int32)
  · refine o_icmpY W0 16 (hb hy d30_3) (XT.ii_lt_t hq1) (by decide) rfl <| o_iconst W0 (v := 0) 17 (hb hy d30_16) rfl rfl ?_
    exact o_retN W0 hlk (t := .boolean) hret (by simp) (z' := (0 : Int32)) (by decide) (hb hy d30_17) (by decide) (by decide) (by simp [own_ls, hq1])
  · refine o_icmpN W0 6 (hb hy d30_3) (XT.ii_lt_f hq1) rfl <| o_iloadN W0 7 (hb hy d30_6) rfl rfl <| o_ldcI W0 (w132 hw) 9 (hb hy d30_7) rfl ?_
    rcases (Classical.em (x1 < (57344 : Int32))).symm with hq2 | hq2
    · refine o_icmpY W0 16 (hb hy d30_9) (XT.ii_ge_t hq2) (by decide) rfl <| o_iconst W0 (v := 0) 17 (hb hy d30_16) rfl rfl ?_
      exact o_retN W0 hlk (t := .boolean) hret (by simp) (z' := (0 : Int32)) (by decide) (hb hy d30_17) (by decide) (by decide) (by simp [own_ls, hq1, hq2])
    · refine o_icmpN W0 12 (hb hy d30_9) (XT.ii_ge_f hq2) rfl <| o_iconst W0 (v := 1) 13 (hb hy d30_12) rfl rfl <| o_goto W0 17 (hb hy d30_13) (by decide) rfl ?_
      exact o_retN W0 hlk (t := .boolean) hret (by simp) (z' := (1 : Int32)) (by decide) (hb hy d30_17) (by decide) (by decide) (by simp [own_ls, hq1, hq2])
theorem rm6 (l : Launch) {Z a0} (hw : HW Z a0) (x1 x2 : Int32) (h0 : Heap) (O0 : Old Z Z.heap.size h0) :
    CtrN l Z mn7 method_4_code 3 (some .int) [] (⟨0, 0, 0, 0⟩ : Room) #[(.int x1), (.int x2)] h0 [] (fun v h => ∃ r1 : Int32, own_cp r1 ∧ (x2 = 0 → own_nh r1) ∧ v = some (.int r1)) := by
  refine CtrN.intro (L0 := #[vi x1, vi x2, un]) (plainFor_of_name pn0) O0 (own_entry rfl) ?_
  intro p e s m below meth c T0 hy hml hret hlk hnm W0
  refine o_iloadN W0 1 (hb hy d1_0) rfl rfl <| o_ldcI W0 (w4 hw) 3 (hb hy d1_1) rfl <| o_iand W0 (v := (x1 &&& 2147483647)) 4 (hb hy d1_3) rfl rfl <| o_ldcI W0 (w5 hw) 6 (hb hy d1_4) rfl ?_
  refine o_irem W0 (v := ((x1 &&& 2147483647) % (1114112 : Int32))) 7 (hb hy d1_6) (by decide) rfl rfl ?_
  refine o_istoreN W0 (L' := #[vi x1, vi x2, vi ((x1 &&& 2147483647) % (1114112 : Int32))]) 8 (hb hy d1_7) rfl rfl <| o_iloadN W0 9 (hb hy d1_8) rfl rfl ?_
  rcases (Classical.em (x2 = (0 : Int32))).symm with hq1 | hq1
  · refine o_ifY W0 30 (hb hy d1_9) (XT.i0_ne_t hq1) (by decide) rfl <| o_iloadN W0 31 (hb hy d1_30) rfl rfl ?_
    exact o_retI W0 hlk hret (hb hy d1_31) (by decide) (by decide) ⟨((x1 &&& 2147483647) % (1114112 : Int32)), own_cpt _, fun q => absurd q hq1, rfl⟩
  · refine o_ifN W0 12 (hb hy d1_9) (XT.i0_ne_f hq1) rfl <| o_iloadN W0 13 (hb hy d1_12) rfl rfl <| o_ldcI W0 (w6 hw) 15 (hb hy d1_13) rfl ?_
    by_cases hq2 : ((x1 &&& 2147483647) % (1114112 : Int32)) < (55296 : Int32)
    · refine o_icmpY W0 30 (hb hy d1_15) (XT.ii_lt_t hq2) (by decide) rfl <| o_iloadN W0 31 (hb hy d1_30) rfl rfl ?_
      exact o_retI W0 hlk hret (hb hy d1_31) (by decide) (by decide) ⟨((x1 &&& 2147483647) % (1114112 : Int32)), own_cpt _, fun _ => Or.inl hq2, rfl⟩
    · refine o_icmpN W0 18 (hb hy d1_15) (XT.ii_lt_f hq2) rfl <| o_iloadN W0 19 (hb hy d1_18) rfl rfl <| o_ldcI W0 (w86 hw) 21 (hb hy d1_19) rfl ?_
      by_cases hq3 : (56319 : Int32) < ((x1 &&& 2147483647) % (1114112 : Int32))
      · refine o_icmpY W0 30 (hb hy d1_21) (XT.ii_gt_t hq3) (by decide) rfl <| o_iloadN W0 31 (hb hy d1_30) rfl rfl ?_
        exact o_retI W0 hlk hret (hb hy d1_31) (by decide) (by decide) ⟨((x1 &&& 2147483647) % (1114112 : Int32)), own_cpt _, fun _ => Or.inr hq3, rfl⟩
      · refine o_icmpN W0 24 (hb hy d1_21) (XT.ii_gt_f hq3) rfl <| o_iloadN W0 25 (hb hy d1_24) rfl rfl <| o_sipush W0 (v := 1024) 28 (hb hy d1_25) (by decide) rfl <| o_iadd W0 (v := (((x1 &&& 2147483647) % (1114112 : Int32)) + 1024)) 29 (hb hy d1_28) rfl rfl <| o_istoreN W0 (L' := #[vi x1, vi x2, .val (.int (((x1 &&& 2147483647) % (1114112 : Int32)) + 1024))]) 30 (hb hy d1_29) rfl rfl <| o_iloadN W0 31 (hb hy d1_30) rfl rfl ?_
        exact o_retI W0 hlk hret (hb hy d1_31) (by decide) (by decide) ⟨(((x1 &&& 2147483647) % (1114112 : Int32)) + 1024), (own_cpx hq2 hq3).1, fun _ => (own_cpx hq2 hq3).2, rfl⟩
theorem rm7 (l : Launch) {Z a0} (hw : HW Z a0) (a1 a2 : Addr) (h0 : Heap) (O0 : Old Z Z.heap.size h0) (z0 : Exa Z h0 a1 s1) (z1 : Fld Z h0 a1 s1 "value" "[B" .null) (z2 : Z.heap.size ≤ a1) (z3 : Fld Z h0 a1 s1 "coder" "B" iZ) :
    CtrW l Z consts_1 mn8 jdk_42_method_149_code 6 none [] (⟨1, 4, 8, 12⟩ : Room) #[(.ref a1), (.ref a2), iZ, iZ, .null] h0 [a1] (fun v h => ∃ r1 : Addr, ∃ r2 : ClassId, Fld Z h a1 s1 "value" "[B" (.ref r1) ∧ Fld Z h a1 s1 "coder" "B" iZ ∧ Arv Z h r1 r2 .byte 0 [] iZ ∧ v = none) := by
  refine CtrW.intro (L0 := #[vr a1, vr a2, vi 0, vi 0, .val .null, un]) (plainFor_of_name pn2) O0 (own_entry rfl) ?_
  intro p e s m below meth c T0 V0 hy hml hret hlk hnm W0
  refine o_aloadN W0 1 (hb hy d4_0) rfl rfl rfl ?_
  refine o_initO W0 (w21 hw) (w22 hw) (w23 hw) (by rw [hml]; rfl) 4 (hb hy d4_1) rfl (by decide) 0 (by exact Nat.le_of_eq rfl) (by decide) ?_
  intro T1 W1
  refine o_iloadN W1 5 (hb hy d4_4) rfl rfl <| o_ifN W1 8 (hb hy d4_5) (XT.i0_ne_f (by decide)) rfl <| o_aloadN W1 9 (hb hy d4_8) rfl rfl rfl ?_
  refine o_ldcR W1 (w24 hw) (own_wS hw) (own_EL hw) (by simp [consts_1]) 11 (hb hy d4_9) rfl (n := 0) (by decide) (by decide) (cells' := 2) (slots' := 4) rfl rfl (by decide) (by decide) (vs := []) (z := (0 : Int32)) ⟨by decide, by decide⟩ (by decide) (by decide) ?_
  intro s2 T2 h2 V2 t2 k2 W2 E2 C2 X2 Fc2 Fv2 A2 ns2
  refine o_getF W2 (w30 hw) Via.refl Fv2 14 (hb hy d4_11) rfl ?_
  intro T3 W3
  have c4 := (z0.ext E2)
  have c5 := (z1.ext E2)
  have sf6 := own_safeS (EL := consts_1) W3.al c4 c5
  refine o_putF W3 (w30 hw) Via.refl c5 c4 (Or.inr ⟨(w26 hw), rfl, hnm⟩) (w11 hw) (ty := (.array .byte)) (v' := (.ref t2)) (by decide) rfl rfl z2 m0 (fun _ R => IW.wr R sf6 W3.inv) 17 (hb hy d4_14) rfl ?_
  intro T7 h7 lo7 W7 R7
  have F7 := c5.same R7
  refine o_aloadN W7 18 (hb hy d4_17) rfl rfl rfl ?_
  refine o_ldcR W7 (w24 hw) (own_wS hw) (own_EL hw) (by simp [consts_1]) 20 (hb hy d4_18) rfl (n := 0) (by decide) (by decide) (cells' := 4) (slots' := 8) rfl rfl (by decide) (by decide) (vs := []) (z := (0 : Int32)) ⟨by decide, by decide⟩ (by decide) (by decide) ?_
  intro s8 T8 h8 V8 t8 k8 W8 E8 C8 X8 Fc8 Fv8 A8 ns8
  refine o_getF W8 (w31 hw) Via.refl Fc8 23 (hb hy d4_20) rfl ?_
  intro T9 W9
  have c10 := ((c4.wr R7).ext E8)
  have c11 := (((z3.ext E2).other R7 (Or.inr (slot_ne (Or.inr (w27 hw)) (Or.inr (w26 hw)) (by decide) (t := .byte) (t' := (.array .byte)) (by decide) (by decide)))).ext E8)
  have c12 := (c4.wr R7)
  have c13 := (CHr.safe C8 c12.lt (Safe.wr R7 sf6 W3.inv.2.1 sf6))
  refine o_putF W9 (w31 hw) Via.refl c11 c10 (Or.inr ⟨(w27 hw), rfl, hnm⟩) (w11 hw) (ty := .byte) (v' := iZ) (by decide) rfl (by decide) z2 m0 (fun _ R => IW.wr R c13 W9.inv) 26 (hb hy d4_23) rfl ?_
  intro T14 h14 lo14 W14 R14
  have F14 := c11.same R14
  have c15 := ((F7.ext E8).other R14 (Or.inr (slot_ne (Or.inr (w26 hw)) (Or.inr (w27 hw)) (by decide) (t := (.array .byte)) (t' := .byte) (by decide) (by decide))))
  have c16 := (c10.wr R14)
  have c17 := (((A2.other R7 (Ne.symm (ns2 _ sf6).2)).ext E8).other R14 (Ne.symm (ns2 _ sf6).2))
  exact o_ret0W W14 (own_EL hw) hlk hret (hb hy d4_26) (by decide) (by decide) ⟨t2, k2, c15, F14, c17, rfl⟩
theorem rm8 (l : Launch) {Z a0} (hw : HW Z a0) (a1 a2 : Addr) (z0 : ClassId) (h0 : Heap) (O0 : Old Z Z.heap.size h0) (z1 : Arv Z h0 a2 z0 .char 0 [] iZ) (z2 : Exa Z h0 a1 s1) (z3 : Fld Z h0 a1 s1 "value" "[B" .null) (z4 : Fld Z h0 a1 s1 "coder" "B" iZ) (z5 : Z.heap.size ≤ a1) :
    CtrW l Z consts_1 mn9 jdk_42_method_3_code 2 none [] (⟨2, 4, 8, 29⟩ : Room) #[(.ref a1), (.ref a2)] h0 [a1] (fun v h => ∃ r1 : Addr, ∃ r2 : ClassId, Fld Z h a1 s1 "value" "[B" (.ref r1) ∧ Fld Z h a1 s1 "coder" "B" iZ ∧ Arv Z h r1 r2 .byte 0 [] iZ ∧ v = none) := by
  refine CtrW.intro (L0 := #[vr a1, vr a2]) (plainFor_of_name pn2) O0 (own_entry rfl) ?_
  intro p e s m below meth c T0 V0 hy hml hret hlk hnm W0
  refine o_aloadN W0 1 (hb hy d3_0) rfl rfl rfl <| o_aloadN W0 2 (hb hy d3_1) rfl rfl rfl <| o_iconst W0 (v := 0) 3 (hb hy d3_2) rfl rfl <| o_aloadN W0 4 (hb hy d3_3) rfl rfl rfl <| o_len W0 z1 5 (hb hy d3_4) rfl ?_
  refine o_aconstNull W0 6 (hb hy d3_5) rfl ?_
  refine o_specialW W0 (y := mn8) rfl (w17 hw) (w18 hw) (w20 hw) (by decide) (a := a1) (argsL := [(.ref a2), iZ, iZ, .null]) (CtrW.back (Wd := 0) W0 (rm7 l hw a1 a2 h0 W0.old z2 z3 z5 z4) (w20 hw) (w12 hw) (by decide) (by decide) (own_EL hw)) (by rw [hml]; rfl) (lenOf pd1 rfl) (S := []) rfl (by exact Nat.le_of_eq rfl) 9 (hb hy d3_6) rfl (cells' := 4) (slots' := 8) rfl rfl (by decide) (by decide) (wy := [a1]) qf (allS ⟨z5, m0⟩ all0)  ?_
  intro v1 T1 h1 V1 lo1 W1 K1 C1 q1
  obtain ⟨r1_1, r2_1, P1_0, P1_1, P1_2, rfl⟩ := q1.2.2
  show Gl _ _ _ _ _ _ _ _ []
  have c2 := (z2.keep K1)
  exact o_ret0W W1 (own_EL hw) hlk hret (hb hy d3_9) (by decide) (by decide) ⟨r1_1, r2_1, P1_0, P1_1, P1_2, rfl⟩
theorem rm9 (l : Launch) {Z a0} (hw : HW Z a0) (gCS : Int32) (a1 : Addr) (h0 : Heap) (O0 : Old Z Z.heap.size h0) (SgCS : Sta Z Z.heap s1 s5 "Z" (.int gCS)) (NgCS : ¬ (gCS = (0 : Int32))) (z0 : Fld Z h0 a1 s1 "coder" "B" iZ) :
    CtrN l Z mn10 jdk_42_method_152_code 1 (some .byte) [] (⟨0, 0, 0, 0⟩ : Room) #[(.ref a1)] h0 [] (fun v h => v = some iZ) := by
  refine CtrN.intro (L0 := #[vr a1]) (plainFor_of_name pn2) O0 (own_entry rfl) ?_
  intro p e s m below meth c T0 hy hml hret hlk hnm W0
  refine o_getS W0 (w49 hw) Via.refl (SgCS.ext W0.ox) 3 (hb hy d9_0) rfl ?_
  intro T1 W1
  refine o_ifN W1 6 (hb hy d9_3) (XT.i0_eq_f NgCS) rfl <| o_aloadN W1 7 (hb hy d9_6) rfl rfl rfl ?_
  refine o_getF W1 (w31 hw) Via.refl z0 10 (hb hy d9_7) rfl ?_
  intro T2 W2
  refine o_goto W2 14 (hb hy d9_10) (by decide) rfl ?_
  exact o_retN W2 hlk (t := .byte) hret (by simp) (z' := (0 : Int32)) (by decide) (hb hy d9_14) (by decide) (by decide) rfl
theorem rm10 (l : Launch) {Z a0} (hw : HW Z a0) (gCS : Int32) (a1 a2 : Addr) (z0 : ClassId) (h0 : Heap) (O0 : Old Z Z.heap.size h0) (z1 : Fld Z h0 a1 s1 "value" "[B" (.ref a2)) (z2 : Arv Z h0 a2 z0 .byte 0 [] iZ) (z3 : Exa Z h0 a1 s1) (SgCS : Sta Z Z.heap s1 s5 "Z" (.int gCS)) (NgCS : ¬ (gCS = (0 : Int32))) (z4 : Fld Z h0 a1 s1 "coder" "B" iZ) :
    CtrN l Z mn0 jdk_42_method_54_code 1 (some .int) [] (⟨1, 0, 0, 14⟩ : Room) #[(.ref a1)] h0 [] (fun v h => v = some iZ) := by
  refine CtrN.intro (L0 := #[vr a1]) (plainFor_of_name pn2) O0 (own_entry rfl) ?_
  intro p e s m below meth c T0 hy hml hret hlk hnm W0
  refine o_aloadN W0 1 (hb hy d8_0) rfl rfl rfl ?_
  refine o_getF W0 (w30 hw) Via.refl z1 4 (hb hy d8_1) rfl ?_
  intro T1 W1
  refine o_len W1 z2 5 (hb hy d8_4) rfl <| o_aloadN W1 6 (hb hy d8_5) rfl rfl rfl ?_
  refine o_virtualC W1 (w44 hw) (w45 hw) (o_nf W1 rfl (w47 hw)) (w47 hw) (w46 hw) (by decide) z3 (w48 hw) (w12 hw) (rm9 l hw gCS a1 h0 W1.old SgCS NgCS z4) 1 0 0 (by decide) (by rw [hml]; rfl) (lenOf pd3 rfl) [iZ] rfl rfl 9 (hb hy d8_6) rfl rfl rfl all0 tri ?_
  intro v2 T2 h2 lo2 W2 K2 q2
  obtain rfl := q2.2.2
  show Gl _ _ _ _ _ _ _ _ [iZ, iZ]
  refine o_ishr W2 (v := 0) 10 (hb hy d8_9) (by decide) rfl ?_
  exact o_retI W2 hlk hret (hb hy d8_10) (by decide) (by decide) rfl
theorem rm11 (l : Launch) {Z a0} (hw : HW Z a0) (gCS x1 x2 : Int32) (h0 : Heap) (O0 : Old Z Z.heap.size h0) (SgCS : Sta Z Z.heap s1 s5 "Z" (.int gCS)) (NgCS : ¬ (gCS = (0 : Int32))) :
    CtrW l Z consts_1 mn11 method_7_code 5 (some (.object s1)) [] (⟨3, 6, 12, 43⟩ : Room) #[iZ, (.int x1), (.int x2)] h0 [] (fun v h => ∃ r1 : Addr, h0.size ≤ r1 ∧ Exa Z h r1 s1 ∧ Sv l Z h r1 (0 : Int32) [] ∧ v = some (.ref r1)) := by
  refine CtrW.intro (L0 := #[vi 0, vi x1, vi x2, un, un]) (plainFor_of_name pn0) O0 (own_entry rfl) ?_
  intro p e s m below meth c T0 V0 hy hml hret hlk hnm W0
  refine o_iloadN W0 1 (hb hy d2_0) rfl rfl <| o_ifN W0 4 (hb hy d2_1) (XT.i0_ne_f (by decide)) rfl ?_
  refine o_new W0 (w10 hw) (w11 hw) (w12 hw) (fun _ E => IW.ext E W0.inv) 7 (hb hy d2_4) rfl (cells' := 1) (slots' := 4) rfl rfl (by decide) (by decide) ?_
  intro b1 T1 h1 W1 E1 ge1 gz1 gb1 A1 D1
  have Fb1_value : Fld Z h1 b1 s1 "value" "[B" .null := D1 (Or.inr (w26 hw)) (ty := (.array .byte)) (by decide)
  have Fb1_coder : Fld Z h1 b1 s1 "coder" "B" iZ := D1 (Or.inr (w27 hw)) (ty := .byte) (by decide)
  refine o_dup W1 8 (hb hy d2_7) rfl rfl <| o_iconst W1 (v := 0) 9 (hb hy d2_8) rfl rfl ?_
  refine o_newP W1 (aty := .char) (w13 hw) (fun _ E => IW.ext E W1.inv) (by decide) (cap := 0) (by decide) (by decide) 11 (hb hy d2_9) rfl (cells' := 2) (slots' := 4) rfl rfl (by decide) (by decide) (vs := []) (dv := iZ) rfl rfl ?_
  intro b2 T2 h2 k2 W2 E2 ge2 gz2 gb2 V2
  have c3 := (Fb1_value.ext E2)
  have c4 := (Fb1_coder.ext E2)
  have c5 := (A1.ext E2)
  refine o_specialW W2 (y := mn9) rfl (w14 hw) (w15 hw) (w16 hw) (by decide) (a := b1) (argsL := [(.ref b2)]) (CtrW.back (Wd := 1) W2 (rm8 l hw b1 b2 k2 h2 W2.old V2 c5 c3 c4 gz1) (w16 hw) (w12 hw) (by decide) (by decide) (own_EL hw)) (by rw [hml]; rfl) (lenOf pd2 rfl) (S := [(.ref b1)]) rfl (by exact Nat.le_of_eq rfl) 14 (hb hy d2_11) rfl (cells' := 6) (slots' := 12) rfl rfl (by decide) (by decide) (wy := [b1]) qf (allS ⟨gz1, (Or.inr gb1)⟩ all0)  ?_
  intro v6 T6 h6 V6 lo6 W6 K6 C6 q6
  obtain ⟨r1_6, r2_6, P6_0, P6_1, P6_2, rfl⟩ := q6.2.2
  show Gl _ _ _ _ _ _ _ _ [(.ref b1)]
  have sv7 : Sv l Z h6 b1 (0 : Int32) [] := by
    intro h' O' K'
    have c8 := (P6_0.keep K' nin0)
    have c9 := (P6_2.keep K' nin0)
    have c10 := (P6_1.keep K' nin0)
    have c11 := ((c5.keep K6).keep K')
    exact ⟨(rm10 l hw gCS b1 r1_6 r2_6 h' O' c8 c9 c11 SgCS NgCS c10), al0⟩
  have c12 := (c5.keep K6)
  exact o_retAW W6 (own_EL hw) hlk (v := (.ref b1)) hret rfl rfl (hb hy d2_14) (by decide) (by decide) ⟨b1, gb1, c12, sv7, rfl⟩
theorem rm12 (l : Launch) {Z a0} (hw : HW Z a0)  (h0 : Heap) (O0 : Old Z Z.heap.size h0) :
    CtrN l Z mn12 method_3_code 2 (some .int) [] (⟨0, 0, 0, 0⟩ : Room) #[iZ, iZ] h0 [] (fun v h => v = some iZ) := by
  refine CtrN.intro (L0 := #[vi 0, vi 0]) (plainFor_of_name pn0) O0 (own_entry rfl) ?_
  intro p e s m below meth c T0 hy hml hret hlk hnm W0
  refine o_iloadN W0 1 (hb hy d6_0) rfl rfl <| o_iloadN W0 2 (hb hy d6_1) rfl rfl <| o_icmpY W0 9 (hb hy d6_2) (XT.ii_ge_t (by decide)) (by decide) rfl <| o_iloadN W0 10 (hb hy d6_9) rfl rfl <| o_iloadN W0 11 (hb hy d6_10) rfl rfl <| o_icmpY W0 18 (hb hy d6_11) (XT.ii_le_t (by decide)) (by decide) rfl ?_
  refine o_iconst W0 (v := 0) 19 (hb hy d6_18) rfl rfl ?_
  exact o_retI W0 hlk hret (hb hy d6_19) (by decide) (by decide) rfl
theorem rm13 (l : Launch) {Z a0} (hw : HW Z a0)  (h0 : Heap) (O0 : Old Z Z.heap.size h0) :
    CtrN l Z mn13 jdk_33_method_40_code 2 (some .int) [] (⟨0, 0, 0, 0⟩ : Room) #[iZ, iZ] h0 [] (fun v h => v = some iZ) := by
  refine CtrN.intro (L0 := #[vi 0, vi 0]) (plainFor_of_name pn3) O0 (own_entry rfl) ?_
  intro p e s m below meth c T0 hy hml hret hlk hnm W0
  refine o_iloadN W0 1 (hb hy d10_0) rfl rfl <| o_iloadN W0 2 (hb hy d10_1) rfl rfl <| o_icmpY W0 9 (hb hy d10_2) (XT.ii_ge_t (by decide)) (by decide) rfl <| o_iloadN W0 10 (hb hy d10_9) rfl rfl <| o_iloadN W0 11 (hb hy d10_10) rfl rfl <| o_icmpN W0 14 (hb hy d10_11) (XT.ii_ne_f (by decide)) rfl ?_
  refine o_iconst W0 (v := 0) 15 (hb hy d10_14) rfl rfl <| o_goto W0 19 (hb hy d10_15) (by decide) rfl ?_
  exact o_retI W0 hlk hret (hb hy d10_19) (by decide) (by decide) rfl
theorem rm14 (l : Launch) {Z a0} (hw : HW Z a0) (a1 a2 : Addr) (h0 : Heap) (O0 : Old Z Z.heap.size h0) (z0 : Exa Z h0 a1 s1) (z1 : Sv l Z h0 a1 (0 : Int32) []) (z2 : Exa Z h0 a2 s1) (z3 : Sv l Z h0 a2 (0 : Int32) []) :
    CtrN l Z mn14 prog_10_method_4_code 6 (some .int) [] (⟨2, 0, 0, 27⟩ : Room) #[(.ref a1), (.ref a2)] h0 [] (fun v h => v = some iZ) := by
  refine CtrN.intro (L0 := #[vr a1, vr a2, un, un, un, un]) (plainFor_of_name pn4) O0 (own_entry rfl) ?_
  intro p e s m below meth c T0 hy hml hret hlk hnm W0
  refine o_iconst W0 (v := 0) 1 (hb hy d7_0) rfl rfl <| o_istoreN W0 (L' := #[vr a1, vr a2, vi 0, un, un, un]) 2 (hb hy d7_1) rfl rfl <| o_iconst W0 (v := 0) 3 (hb hy d7_2) rfl rfl <| o_istoreN W0 (L' := #[vr a1, vr a2, vi 0, vi 0, un, un]) 4 (hb hy d7_3) rfl rfl <| o_iloadN W0 5 (hb hy d7_4) rfl rfl <| o_aloadN W0 6 (hb hy d7_5) rfl rfl rfl ?_
  refine o_virtualC W0 (w39 hw) (w40 hw) (o_nf W0 rfl (w42 hw)) (w42 hw) (w41 hw) (by decide) z0 (w43 hw) (w12 hw) (z1 _ W0.old (Keep.refl _ _)).1 1 0 0 (by decide) (by rw [hml]; rfl) (lenOf pd6 rfl) [iZ] rfl rfl 9 (hb hy d7_6) rfl rfl rfl all0 tri ?_
  intro v1 T1 h1 lo1 W1 K1 q1
  obtain rfl := q1.2.2
  show Gl _ _ _ _ _ _ _ _ [iZ, iZ]
  refine o_icmpY W1 68 (hb hy d7_9) (XT.ii_ge_t (by decide)) (by decide) rfl <| o_aloadN W1 69 (hb hy d7_68) rfl rfl rfl ?_
  have c2 := (z1.keep K1)
  have c3 := (z0.keep K1)
  refine o_virtualC W1 (w39 hw) (w40 hw) (o_nf W1 rfl (w42 hw)) (w42 hw) (w41 hw) (by decide) c3 (w43 hw) (w12 hw) (c2 _ W1.old (Keep.refl _ _)).1 0 0 0 (by decide) (by rw [hml]; rfl) (lenOf pd6 rfl) [] rfl rfl 72 (hb hy d7_69) rfl rfl rfl all0 tri ?_
  intro v4 T4 h4 lo4 W4 K4 q4
  obtain rfl := q4.2.2
  show Gl _ _ _ _ _ _ _ _ [iZ]
  refine o_iloadN W4 73 (hb hy d7_72) rfl rfl <| o_isub W4 (v := 0) 74 (hb hy d7_73) (by decide) rfl <| o_aloadN W4 75 (hb hy d7_74) rfl rfl rfl ?_
  have c5 := ((z2.keep K1).keep K4)
  have c6 := ((z3.keep K1).keep K4)
  refine o_virtualC W4 (w39 hw) (w40 hw) (o_nf W4 rfl (w42 hw)) (w42 hw) (w41 hw) (by decide) c5 (w43 hw) (w12 hw) (c6 _ W4.old (Keep.refl _ _)).1 1 0 0 (by decide) (by rw [hml]; rfl) (lenOf pd6 rfl) [iZ] rfl rfl 78 (hb hy d7_75) rfl rfl rfl all0 tri ?_
  intro v7 T7 h7 lo7 W7 K7 q7
  obtain rfl := q7.2.2
  show Gl _ _ _ _ _ _ _ _ [iZ, iZ]
  refine o_iloadN W7 79 (hb hy d7_78) rfl rfl <| o_isub W7 (v := 0) 80 (hb hy d7_79) (by decide) rfl ?_
  refine o_staticC W7 (w50 hw) (w51 hw) (w52 hw) (w53 hw) (by decide) (rm13 l hw  h7 W7.old ) 0 0 0 (by decide) (by rw [hml]; rfl) (lenOf pd5 rfl) [] rfl rfl 83 (hb hy d7_80) rfl rfl rfl all0 tri ?_
  intro v8 T8 h8 lo8 W8 K8 q8
  obtain rfl := q8.2.2
  show Gl _ _ _ _ _ _ _ _ [iZ]
  exact o_retI W8 hlk hret (hb hy d7_83) (by decide) (by decide) rfl
theorem rm15 (l : Launch) {Z a0} (hw : HW Z a0)  (h0 : Heap) (O0 : Old Z Z.heap.size h0) :
    CtrN l Z mn15 method_2_code 1 (some .int) [] (⟨0, 0, 0, 0⟩ : Room) #[iZ] h0 [] (fun v h => v = some iZ) := by
  refine CtrN.intro (L0 := #[vi 0]) (plainFor_of_name pn0) O0 (own_entry rfl) ?_
  intro p e s m below meth c T0 hy hml hret hlk hnm W0
  refine o_iloadN W0 1 (hb hy d11_0) rfl rfl <| o_ifY W0 8 (hb hy d11_1) (XT.i0_ge_t (by decide)) (by decide) rfl <| o_iloadN W0 9 (hb hy d11_8) rfl rfl <| o_ifY W0 16 (hb hy d11_9) (XT.i0_le_t (by decide)) (by decide) rfl <| o_iconst W0 (v := 0) 17 (hb hy d11_16) rfl rfl ?_
  exact o_retI W0 hlk hret (hb hy d11_17) (by decide) (by decide) rfl
theorem rm16 (l : Launch) {Z a0} (hw : HW Z a0) (a1 a2 : Addr) (z0 : ClassId) (x1 : Int32) (z1 : ClassId) (h0 : Heap) (O0 : Old Z Z.heap.size h0) (z2 : Arv Z h0 a1 z0 .char 1 [(.int x1)] iZ) (hu1 : own_cp x1) (hc2 : x1 < (65536 : Int32)) (hc3 : ¬ ((255 : Int32) < x1)) (z3 : Arv Z h0 a2 z1 .byte 1 [iZ] iZ) (z4 : Z.heap.size ≤ a2) :
    CtrN l Z mn16 jdk_52_method_21_code 7 (some .int) [] (⟨0, 0, 0, 0⟩ : Room) #[(.ref a1), iZ, (.ref a2), iZ, (.int 1)] h0 [a2] (fun v h => Arv Z h a2 z1 .byte 1 [(.int (bB x1))] iZ ∧ v = some (.int 1)) := by
  refine CtrN.intro (L0 := #[vr a1, vi 0, vr a2, vi 0, vi 1, un, un]) (plainFor_of_name pn5) O0 (own_entry rfl) ?_
  intro p e s m below meth c T0 hy hml hret hlk hnm W0
  refine o_iconst W0 (v := 0) 1 (hb hy d13_0) rfl rfl <| o_istore W0 (L' := #[vr a1, vi 0, vr a2, vi 0, vi 1, vi 0, un]) 3 (hb hy d13_1) rfl rfl <| o_iload W0 5 (hb hy d13_3) rfl rfl <| o_iload W0 7 (hb hy d13_5) rfl rfl <| o_icmpN W0 10 (hb hy d13_7) (XT.ii_ge_f (by decide)) rfl <| o_aloadN W0 11 (hb hy d13_10) rfl rfl rfl ?_
  refine o_iloadN W0 12 (hb hy d13_11) rfl rfl <| o_caload W0 z2 (x := x1) (i := 0) (by decide) (by decide) (by decide) rfl 13 (hb hy d13_12) rfl <| o_istore W0 (L' := #[vr a1, vi 0, vr a2, vi 0, vi 1, vi 0, vi x1]) 15 (hb hy d13_13) rfl rfl <| o_iload W0 17 (hb hy d13_15) rfl rfl <| o_sipush W0 (v := 255) 20 (hb hy d13_17) (by decide) rfl <| o_icmpY W0 26 (hb hy d13_20) (XT.ii_le_t (own_cb (own_cpc hu1 hc2) hc3).2) (by decide) rfl ?_
  refine o_aloadN W0 27 (hb hy d13_26) rfl rfl rfl <| o_iloadN W0 28 (hb hy d13_27) rfl rfl <| o_iload W0 30 (hb hy d13_28) rfl rfl <| o_i2b W0 (v := (bB x1)) 31 (hb hy d13_30) rfl rfl ?_
  refine o_stB W0 z3 (i := 0) (x' := (bB x1)) (by decide) (by decide) (by decide) (Nat.lt_of_sub_eq_succ rfl) (own_b8 _) (vs' := [(.int (bB x1))]) rfl z4 m0 tri 32 (hb hy d13_31) rfl ?_
  intro T4 h4 lo4 W4 R4 V4
  refine o_iinc W4 (v := 1) (L' := #[vr a1, vi 1, vr a2, vi 0, vi 1, vi 0, vi x1]) 35 (hb hy d13_32) rfl (by decide) rfl rfl <| o_iinc W4 (v := 1) (L' := #[vr a1, vi 1, vr a2, vi 1, vi 1, vi 0, vi x1]) 38 (hb hy d13_35) rfl (by decide) rfl rfl <| o_iinc W4 (v := 1) (L' := #[vr a1, vi 1, vr a2, vi 1, vi 1, vi 1, vi x1]) 41 (hb hy d13_38) rfl (by decide) rfl rfl <| o_goto W4 3 (hb hy d13_41) (by decide) rfl <| o_iload W4 5 (hb hy d13_3) rfl rfl <| o_iload W4 7 (hb hy d13_5) rfl rfl ?_
  refine o_icmpY W4 44 (hb hy d13_7) (XT.ii_ge_t (by decide)) (by decide) rfl <| o_iload W4 46 (hb hy d13_44) rfl rfl ?_
  exact o_retI W4 hlk hret (hb hy d13_46) (by decide) (by decide) ⟨V4, rfl⟩
theorem rm17 (l : Launch) {Z a0} (hw : HW Z a0) (a1 : Addr) (z0 : ClassId) (x1 : Int32) (h0 : Heap) (O0 : Old Z Z.heap.size h0) (z1 : Arv Z h0 a1 z0 .char 1 [(.int x1)] iZ) (hu3 : own_cp x1) (hc4 : x1 < (65536 : Int32)) (hc5 : ¬ ((255 : Int32) < x1)) :
    CtrN l Z mn17 jdk_52_method_16_code 6 (some (.array .byte)) [] (⟨1, 1, 1, 18⟩ : Room) #[(.ref a1), iZ, (.int 1)] h0 [] (fun v h => ∃ r1 : Addr, ∃ r2 : ClassId, h0.size ≤ r1 ∧ Arv Z h r1 r2 .byte 1 [(.int (bB x1))] iZ ∧ v = some (.ref r1)) := by
  refine CtrN.intro (L0 := #[vr a1, vi 0, vi 1, un, un, un]) (plainFor_of_name pn5) O0 (own_entry rfl) ?_
  intro p e s m below meth c T0 hy hml hret hlk hnm W0
  refine o_iloadN W0 1 (hb hy d12_0) rfl rfl ?_
  refine o_newP W0 (aty := .byte) (w25 hw) tri (by decide) (cap := 1) (by decide) (by decide) 3 (hb hy d12_1) rfl (cells' := 1) (slots' := 1) rfl rfl (by decide) (by decide) (vs := [iZ]) (dv := iZ) rfl rfl ?_
  intro b1 T1 h1 k1 W1 E1 ge1 gz1 gb1 V1
  refine o_astoreN W1 (L' := #[vr a1, vi 0, vi 1, vr b1, un, un]) 4 (hb hy d12_3) rfl rfl rfl <| o_aloadN W1 5 (hb hy d12_4) rfl rfl rfl <| o_iloadN W1 6 (hb hy d12_5) rfl rfl <| o_aloadN W1 7 (hb hy d12_6) rfl rfl rfl <| o_iconst W1 (v := 0) 8 (hb hy d12_7) rfl rfl <| o_iloadN W1 9 (hb hy d12_8) rfl rfl ?_
  have c2 := (z1.ext E1)
  refine o_staticC W1 (w62 hw) (w63 hw) (w60 hw) (w64 hw) (by decide) (rm16 l hw a1 b1 z0 x1 k1 h1 W1.old c2 hu3 hc4 hc5 V1 gz1) 0 1 1 (by decide) (by rw [hml]; rfl) (lenOf pd9 rfl) [] rfl rfl 12 (hb hy d12_9) rfl rfl rfl (allS ⟨gz1, (Or.inr gb1)⟩ all0) tri ?_
  intro v6 T6 h6 lo6 W6 K6 q6
  obtain ⟨P6_0, rfl⟩ := q6.2.2
  show Gl _ _ _ _ _ _ _ _ [(.int 1)]
  refine o_istore W6 (L' := #[vr a1, vi 0, vi 1, vr b1, vi 1, un]) 14 (hb hy d12_12) rfl rfl <| o_iload W6 16 (hb hy d12_14) rfl rfl <| o_iloadN W6 17 (hb hy d12_16) rfl rfl <| o_icmpY W6 57 (hb hy d12_17) (XT.ii_eq_t (by decide)) (by decide) rfl <| o_aloadN W6 58 (hb hy d12_57) rfl rfl rfl ?_
  exact o_retA W6 hlk (v := (.ref b1)) hret rfl rfl (hb hy d12_58) (by decide) (by decide) ⟨b1, k1, gb1, P6_0, rfl⟩
theorem rm18 (l : Launch) {Z a0} (hw : HW Z a0) (a1 : Addr) (z0 : ClassId) (x1 : Int32) (h0 : Heap) (O0 : Old Z Z.heap.size h0) (z1 : Arv Z h0 a1 z0 .byte 1 [(.int (bB x1))] iZ) :
    CtrN l Z mn18 jdk_52_method_15_code 2 (some .byte) [] (⟨0, 0, 0, 0⟩ : Room) #[(.ref a1), (.int 1)] h0 [] (fun v h => v = some iZ) := by
  refine CtrN.intro (L0 := #[vr a1, vi 1]) (plainFor_of_name pn5) O0 (own_entry rfl) ?_
  intro p e s m below meth c T0 hy hml hret hlk hnm W0
  refine o_iloadN W0 1 (hb hy d14_0) rfl rfl <| o_aloadN W0 2 (hb hy d14_1) rfl rfl rfl <| o_len W0 z1 3 (hb hy d14_2) rfl <| o_isub W0 (v := 0) 4 (hb hy d14_3) (by decide) rfl <| o_bipush W0 (v := 31) 6 (hb hy d14_4) (by decide) rfl <| o_iushr W0 (v := 0) 7 (hb hy d14_6) (by decide) rfl ?_
  refine o_i2b W0 (v := 0) 8 (hb hy d14_7) (by decide) rfl ?_
  exact o_retN W0 hlk (t := .byte) hret (by simp) (z' := (0 : Int32)) (by decide) (hb hy d14_8) (by decide) (by decide) rfl
theorem rm19 (l : Launch) {Z a0} (hw : HW Z a0) (gCS : Int32) (a1 a2 : Addr) (z0 : ClassId) (x1 : Int32) (h0 : Heap) (O0 : Old Z Z.heap.size h0) (SgCS : Sta Z Z.heap s1 s5 "Z" (.int gCS)) (NgCS : ¬ (gCS = (0 : Int32))) (z1 : Arv Z h0 a2 z0 .char 1 [(.int x1)] iZ) (hu3 : own_cp x1) (hc4 : x1 < (65536 : Int32)) (hc5 : ¬ ((255 : Int32) < x1)) (z2 : Exa Z h0 a1 s1) (z3 : Fld Z h0 a1 s1 "coder" "B" iZ) (z4 : Z.heap.size ≤ a1) (z5 : Fld Z h0 a1 s1 "value" "[B" .null) :
    CtrN l Z mn8 jdk_42_method_149_code 6 none [] (⟨2, 1, 1, 35⟩ : Room) #[(.ref a1), (.ref a2), iZ, (.int 1), .null] h0 [a1] (fun v h => ∃ r1 : Addr, ∃ r2 : ClassId, h0.size ≤ r1 ∧ Fld Z h a1 s1 "coder" "B" iZ ∧ Fld Z h a1 s1 "value" "[B" (.ref r1) ∧ Arv Z h r1 r2 .byte 1 [(.int (bB x1))] iZ ∧ v = none) := by
  refine CtrN.intro (L0 := #[vr a1, vr a2, vi 0, vi 1, .val .null, un]) (plainFor_of_name pn2) O0 (own_entry rfl) ?_
  intro p e s m below meth c T0 hy hml hret hlk hnm W0
  refine o_aloadN W0 1 (hb hy d4_0) rfl rfl rfl ?_
  refine o_initO W0 (w21 hw) (w22 hw) (w23 hw) (by rw [hml]; rfl) 4 (hb hy d4_1) rfl (by decide) 0 (by exact Nat.le_of_eq rfl) (by decide) ?_
  intro T1 W1
  refine o_iloadN W1 5 (hb hy d4_4) rfl rfl <| o_ifY W1 27 (hb hy d4_5) (XT.i0_ne_t (by decide)) (by decide) rfl ?_
  refine o_getS W1 (w49 hw) Via.refl (SgCS.ext W1.ox) 30 (hb hy d4_27) rfl ?_
  intro T2 W2
  refine o_ifN W2 33 (hb hy d4_30) (XT.i0_eq_f NgCS) rfl <| o_aloadN W2 34 (hb hy d4_33) rfl rfl rfl <| o_iloadN W2 35 (hb hy d4_34) rfl rfl <| o_iloadN W2 36 (hb hy d4_35) rfl rfl ?_
  refine o_staticC W2 (w58 hw) (w59 hw) (w60 hw) (w61 hw) (by decide) (rm17 l hw a2 z0 x1 h0 W2.old z1 hu3 hc4 hc5) 0 1 1 (by decide) (by rw [hml]; rfl) (lenOf pd10 rfl) [] rfl rfl 39 (hb hy d4_36) rfl rfl rfl all0 tri ?_
  intro v6 T6 h6 lo6 W6 K6 q6
  obtain ⟨r1_6, r2_6, P6_0, P6_1, rfl⟩ := q6.2.2
  show Gl _ _ _ _ _ _ _ _ [(.ref r1_6)]
  refine o_astore W6 (L' := #[vr a1, vr a2, vi 0, vi 1, .val .null, vr r1_6]) 41 (hb hy d4_39) rfl rfl rfl <| o_aloadN W6 42 (hb hy d4_41) rfl rfl rfl <| o_aload W6 44 (hb hy d4_42) rfl rfl rfl <| o_iloadN W6 45 (hb hy d4_44) rfl rfl ?_
  refine o_staticC W6 (w65 hw) (w66 hw) (w60 hw) (w67 hw) (by decide) (rm18 l hw r1_6 r2_6 x1 h6 W6.old P6_1) 1 1 1 (by decide) (by rw [hml]; rfl) (lenOf pd11 rfl) [(.ref a1)] rfl rfl 48 (hb hy d4_45) rfl rfl rfl all0 tri ?_
  intro v7 T7 h7 lo7 W7 K7 q7
  obtain rfl := q7.2.2
  show Gl _ _ _ _ _ _ _ _ [iZ, (.ref a1)]
  have c8 := ((z2.keep K6).keep K7)
  have c9 := ((z3.keep K6 nin0).keep K7 nin0)
  refine o_putF W7 (w31 hw) Via.refl c9 c8 (Or.inr ⟨(w27 hw), rfl, hnm⟩) (w11 hw) (ty := .byte) (v' := iZ) (by decide) rfl (by decide) z4 m0 tri 51 (hb hy d4_48) rfl ?_
  intro T10 h10 lo10 W10 R10
  have F10 := c9.same R10
  refine o_aloadN W10 52 (hb hy d4_51) rfl rfl rfl <| o_aload W10 54 (hb hy d4_52) rfl rfl rfl ?_
  have c11 := (c8.wr R10)
  have c12 := (((z5.keep K6 nin0).keep K7 nin0).other R10 (Or.inr (slot_ne (Or.inr (w26 hw)) (Or.inr (w27 hw)) (by decide) (t := (.array .byte)) (t' := .byte) (by decide) (by decide))))
  refine o_putF W10 (w30 hw) Via.refl c12 c11 (Or.inr ⟨(w26 hw), rfl, hnm⟩) (w11 hw) (ty := (.array .byte)) (v' := (.ref r1_6)) (by decide) rfl rfl z4 m0 tri 57 (hb hy d4_54) rfl ?_
  intro T13 h13 lo13 W13 R13
  have F13 := c12.same R13
  have c14 := (F10.other R13 (Or.inr (slot_ne (Or.inr (w27 hw)) (Or.inr (w26 hw)) (by decide) (t := .byte) (t' := (.array .byte)) (by decide) (by decide))))
  have c15 := (c11.wr R13)
  have c16 := (((P6_1.keep K7 nin0).other R10 (own_ne' z2.lt P6_0)).other R13 (own_ne' z2.lt P6_0))
  exact o_ret0 W13 hlk hret (hb hy d4_57) (by decide) (by decide) ⟨r1_6, r2_6, (Nat.le_trans W2.keep.1 P6_0), c14, F13, c16, rfl⟩
theorem rm20 (l : Launch) {Z a0} (hw : HW Z a0) (gCS : Int32) (a1 a2 : Addr) (z0 : ClassId) (x1 : Int32) (h0 : Heap) (O0 : Old Z Z.heap.size h0) (z1 : Arv Z h0 a2 z0 .char 1 [(.int x1)] iZ) (SgCS : Sta Z Z.heap s1 s5 "Z" (.int gCS)) (NgCS : ¬ (gCS = (0 : Int32))) (hu1 : own_cp x1) (hc2 : x1 < (65536 : Int32)) (hc3 : ¬ ((255 : Int32) < x1)) (z2 : Exa Z h0 a1 s1) (z3 : Fld Z h0 a1 s1 "coder" "B" iZ) (z4 : Fld Z h0 a1 s1 "value" "[B" .null) (z5 : Z.heap.size ≤ a1) :
    CtrN l Z mn9 jdk_42_method_3_code 2 none [] (⟨3, 1, 1, 52⟩ : Room) #[(.ref a1), (.ref a2)] h0 [a1] (fun v h => ∃ r1 : Addr, ∃ r2 : ClassId, h0.size ≤ r1 ∧ Fld Z h a1 s1 "coder" "B" iZ ∧ Fld Z h a1 s1 "value" "[B" (.ref r1) ∧ Arv Z h r1 r2 .byte 1 [(.int (bB x1))] iZ ∧ v = none) := by
  refine CtrN.intro (L0 := #[vr a1, vr a2]) (plainFor_of_name pn2) O0 (own_entry rfl) ?_
  intro p e s m below meth c T0 hy hml hret hlk hnm W0
  refine o_aloadN W0 1 (hb hy d3_0) rfl rfl rfl <| o_aloadN W0 2 (hb hy d3_1) rfl rfl rfl <| o_iconst W0 (v := 0) 3 (hb hy d3_2) rfl rfl <| o_aloadN W0 4 (hb hy d3_3) rfl rfl rfl <| o_len W0 z1 5 (hb hy d3_4) rfl ?_
  refine o_aconstNull W0 6 (hb hy d3_5) rfl ?_
  refine o_specialC W0 rfl (w17 hw) (w18 hw) (w20 hw) (by decide) (w12 hw) (rm19 l hw gCS a1 a2 z0 x1 h0 W0.old SgCS NgCS z1 hu1 hc2 hc3 z2 z3 z5 z4) 0 1 1 (by decide) (by rw [hml]; rfl) (lenOf pd1 rfl) [] rfl rfl 9 (hb hy d3_6) rfl rfl rfl (allS ⟨z5, m0⟩ all0) tri ?_
  intro v4 T4 h4 lo4 W4 K4 q4
  obtain ⟨r1_4, r2_4, P4_0, P4_1, P4_2, P4_3, rfl⟩ := q4.2.2
  show Gl _ _ _ _ _ _ _ _ []
  have c5 := (z2.keep K4)
  exact o_ret0 W4 hlk hret (hb hy d3_9) (by decide) (by decide) ⟨r1_4, r2_4, (Nat.le_trans W0.keep.1 P4_0), P4_1, P4_2, P4_3, rfl⟩
theorem rm21 (l : Launch) {Z a0} (hw : HW Z a0) (gCS : Int32) (a1 a2 : Addr) (z0 : ClassId) (x1 : Int32) (h0 : Heap) (O0 : Old Z Z.heap.size h0) (z1 : Fld Z h0 a1 s1 "value" "[B" (.ref a2)) (z2 : Arv Z h0 a2 z0 .byte 1 [(.int (bB x1))] iZ) (z3 : Exa Z h0 a1 s1) (SgCS : Sta Z Z.heap s1 s5 "Z" (.int gCS)) (NgCS : ¬ (gCS = (0 : Int32))) (z4 : Fld Z h0 a1 s1 "coder" "B" iZ) :
    CtrN l Z mn0 jdk_42_method_54_code 1 (some .int) [] (⟨1, 0, 0, 14⟩ : Room) #[(.ref a1)] h0 [] (fun v h => v = some (.int 1)) := by
  refine CtrN.intro (L0 := #[vr a1]) (plainFor_of_name pn2) O0 (own_entry rfl) ?_
  intro p e s m below meth c T0 hy hml hret hlk hnm W0
  refine o_aloadN W0 1 (hb hy d8_0) rfl rfl rfl ?_
  refine o_getF W0 (w30 hw) Via.refl z1 4 (hb hy d8_1) rfl ?_
  intro T1 W1
  refine o_len W1 z2 5 (hb hy d8_4) rfl <| o_aloadN W1 6 (hb hy d8_5) rfl rfl rfl ?_
  refine o_virtualC W1 (w44 hw) (w45 hw) (o_nf W1 rfl (w47 hw)) (w47 hw) (w46 hw) (by decide) z3 (w48 hw) (w12 hw) (rm9 l hw gCS a1 h0 W1.old SgCS NgCS z4) 1 0 0 (by decide) (by rw [hml]; rfl) (lenOf pd3 rfl) [(.int 1)] rfl rfl 9 (hb hy d8_6) rfl rfl rfl all0 tri ?_
  intro v2 T2 h2 lo2 W2 K2 q2
  obtain rfl := q2.2.2
  show Gl _ _ _ _ _ _ _ _ [iZ, (.int 1)]
  refine o_ishr W2 (v := 1) 10 (hb hy d8_9) (by decide) rfl ?_
  exact o_retI W2 hlk hret (hb hy d8_10) (by decide) (by decide) rfl
theorem rm22 (l : Launch) {Z a0} (hw : HW Z a0) (gCS : Int32) (a1 : Addr) (h0 : Heap) (O0 : Old Z Z.heap.size h0) (SgCS : Sta Z Z.heap s1 s5 "Z" (.int gCS)) (NgCS : ¬ (gCS = (0 : Int32))) (z0 : Fld Z h0 a1 s1 "coder" "B" iZ) :
    CtrN l Z mn19 jdk_42_method_154_code 1 (some .boolean) [] (⟨0, 0, 0, 0⟩ : Room) #[(.ref a1)] h0 [] (fun v h => v = some (.int 1)) := by
  refine CtrN.intro (L0 := #[vr a1]) (plainFor_of_name pn2) O0 (own_entry rfl) ?_
  intro p e s m below meth c T0 hy hml hret hlk hnm W0
  refine o_getS W0 (w49 hw) Via.refl (SgCS.ext W0.ox) 3 (hb hy d16_0) rfl ?_
  intro T1 W1
  refine o_ifN W1 6 (hb hy d16_3) (XT.i0_eq_f NgCS) rfl <| o_aloadN W1 7 (hb hy d16_6) rfl rfl rfl ?_
  refine o_getF W1 (w31 hw) Via.refl z0 10 (hb hy d16_7) rfl ?_
  intro T2 W2
  refine o_ifN W2 13 (hb hy d16_10) (XT.i0_ne_f (by decide)) rfl <| o_iconst W2 (v := 1) 14 (hb hy d16_13) rfl rfl <| o_goto W2 18 (hb hy d16_14) (by decide) rfl ?_
  exact o_retN W2 hlk (t := .boolean) hret (by simp) (z' := (1 : Int32)) (by decide) (hb hy d16_18) (by decide) (by decide) rfl
theorem rm23 (l : Launch) {Z a0} (hw : HW Z a0)  (h0 : Heap) (O0 : Old Z Z.heap.size h0) :
    CtrN l Z mn20 jdk_41_method_11_code 3 (some .int) [] (⟨0, 0, 0, 0⟩ : Room) #[iZ, (.int 1), .null] h0 [] (fun v h => v = some iZ) := by
  refine CtrN.intro (L0 := #[vi 0, vi 1, .val .null]) (plainFor_of_name pn6) O0 (own_entry rfl) ?_
  intro p e s m below meth c T0 hy hml hret hlk hnm W0
  refine o_iloadN W0 1 (hb hy d18_0) rfl rfl <| o_ifN W0 4 (hb hy d18_1) (XT.i0_lt_f (by decide)) rfl <| o_iloadN W0 5 (hb hy d18_4) rfl rfl <| o_iloadN W0 6 (hb hy d18_5) rfl rfl <| o_icmpY W0 16 (hb hy d18_6) (XT.ii_lt_t (by decide)) (by decide) rfl <| o_iloadN W0 17 (hb hy d18_16) rfl rfl ?_
  exact o_retI W0 hlk hret (hb hy d18_17) (by decide) (by decide) rfl
theorem rm24 (l : Launch) {Z a0} (hw : HW Z a0) (a1 : Addr) (h0 : Heap) (O0 : Old Z Z.heap.size h0) :
    CtrN l Z mn20 jdk_41_method_11_code 3 (some .int) [] (⟨0, 0, 0, 0⟩ : Room) #[iZ, (.int 1), (.ref a1)] h0 [] (fun v h => v = some iZ) := by
  refine CtrN.intro (L0 := #[vi 0, vi 1, vr a1]) (plainFor_of_name pn6) O0 (own_entry rfl) ?_
  intro p e s m below meth c T0 hy hml hret hlk hnm W0
  refine o_iloadN W0 1 (hb hy d18_0) rfl rfl <| o_ifN W0 4 (hb hy d18_1) (XT.i0_lt_f (by decide)) rfl <| o_iloadN W0 5 (hb hy d18_4) rfl rfl <| o_iloadN W0 6 (hb hy d18_5) rfl rfl <| o_icmpY W0 16 (hb hy d18_6) (XT.ii_lt_t (by decide)) (by decide) rfl <| o_iloadN W0 17 (hb hy d18_16) rfl rfl ?_
  exact o_retI W0 hlk hret (hb hy d18_17) (by decide) (by decide) rfl
theorem rm25 (l : Launch) {Z a0} (hw : HW Z a0) (gF : Value) (h0 : Heap) (O0 : Old Z Z.heap.size h0) (SgF : Sta Z Z.heap s6 s7 s8 gF) (NgF : gF.isRef = true) :
    CtrN l Z mn21 jdk_42_method_155_code 2 none [] (⟨1, 0, 0, 14⟩ : Room) #[iZ, (.int 1)] h0 [] (fun v h => v = none) := by
  refine CtrN.intro (L0 := #[vi 0, vi 1]) (plainFor_of_name pn2) O0 (own_entry rfl) ?_
  intro p e s m below meth c T0 hy hml hret hlk hnm W0
  refine o_iloadN W0 1 (hb hy d17_0) rfl rfl <| o_iloadN W0 2 (hb hy d17_1) rfl rfl ?_
  rcases ref_cases NgF with rfl | ⟨aF1, rfl⟩
  · refine o_getS W0 (w81 hw) Via.refl (SgF.ext W0.ox) 5 (hb hy d17_2) rfl ?_
    intro T2 W2
    refine o_staticC W2 (w83 hw) (w84 hw) (w82 hw) (w85 hw) (by decide) (rm23 l hw  h0 W2.old ) 0 0 0 (by decide) (by rw [hml]; rfl) (lenOf pd13 rfl) [] rfl rfl 8 (hb hy d17_5) rfl rfl rfl all0 tri ?_
    intro v3 T3 h3 lo3 W3 K3 q3
    obtain rfl := q3.2.2
    show Gl _ _ _ _ _ _ _ _ [iZ]
    refine o_pop W3 9 (hb hy d17_8) rfl rfl ?_
    exact o_ret0 W3 hlk hret (hb hy d17_9) (by decide) (by decide) rfl
  · refine o_getS W0 (w81 hw) Via.refl (SgF.ext W0.ox) 5 (hb hy d17_2) rfl ?_
    intro T4 W4
    refine o_staticC W4 (w83 hw) (w84 hw) (w82 hw) (w85 hw) (by decide) (rm24 l hw aF1 h0 W4.old ) 0 0 0 (by decide) (by rw [hml]; rfl) (lenOf pd13 rfl) [] rfl rfl 8 (hb hy d17_5) rfl rfl rfl all0 tri ?_
    intro v5 T5 h5 lo5 W5 K5 q5
    obtain rfl := q5.2.2
    show Gl _ _ _ _ _ _ _ _ [iZ]
    refine o_pop W5 9 (hb hy d17_8) rfl rfl ?_
    exact o_ret0 W5 hlk hret (hb hy d17_9) (by decide) (by decide) rfl
theorem rm26 (l : Launch) {Z a0} (hw : HW Z a0) (gCS : Int32) (gF : Value) (a1 a2 : Addr) (z0 : ClassId) (x1 : Int32) (h0 : Heap) (O0 : Old Z Z.heap.size h0) (z1 : Exa Z h0 a1 s1) (SgCS : Sta Z Z.heap s1 s5 "Z" (.int gCS)) (NgCS : ¬ (gCS = (0 : Int32))) (z2 : Fld Z h0 a1 s1 "coder" "B" iZ) (z3 : Fld Z h0 a1 s1 "value" "[B" (.ref a2)) (z4 : Arv Z h0 a2 z0 .byte 1 [(.int (bB x1))] iZ) (SgF : Sta Z Z.heap s6 s7 s8 gF) (NgF : gF.isRef = true) (hu9 : own_cp x1) (hc10 : x1 < (65536 : Int32)) (hc11 : ¬ ((255 : Int32) < x1)) :
    CtrN l Z mn1 jdk_42_method_57_code 3 (some .int) [] (⟨6, 0, 0, 90⟩ : Room) #[(.ref a1), iZ] h0 [] (fun v h => v = some (.int x1)) := by
  refine CtrN.intro (L0 := #[vr a1, vi 0, un]) (plainFor_of_name pn2) O0 (own_entry rfl) ?_
  intro p e s m below meth c T0 hy hml hret hlk hnm W0
  refine o_aloadN W0 1 (hb hy d15_0) rfl rfl rfl ?_
  refine o_virtualC W0 (w73 hw) (w74 hw) (o_nf W0 rfl (w76 hw)) (w76 hw) (w75 hw) (by decide) z1 (w77 hw) (w12 hw) (rm22 l hw gCS a1 h0 W0.old SgCS NgCS z2) 0 0 0 (by decide) (by rw [hml]; rfl) (lenOf pd12 rfl) [] rfl rfl 4 (hb hy d15_1) rfl rfl rfl all0 tri ?_
  intro v1 T1 h1 lo1 W1 K1 q1
  obtain rfl := q1.2.2
  show Gl _ _ _ _ _ _ _ _ [(.int 1)]
  refine o_ifN W1 7 (hb hy d15_4) (XT.i0_eq_f (by decide)) rfl <| o_iloadN W1 8 (hb hy d15_7) rfl rfl <| o_aloadN W1 9 (hb hy d15_8) rfl rfl rfl ?_
  have c2 := (z3.keep K1 nin0)
  refine o_getF W1 (w30 hw) Via.refl c2 12 (hb hy d15_9) rfl ?_
  intro T3 W3
  have c4 := (z4.keep K1 nin0)
  refine o_len W3 c4 13 (hb hy d15_12) rfl ?_
  refine o_staticC W3 (w78 hw) (w79 hw) (w12 hw) (w80 hw) (by decide) (rm25 l hw gF h1 W3.old SgF NgF) 0 0 0 (by decide) (by rw [hml]; rfl) (lenOf pd14 rfl) [] rfl rfl 16 (hb hy d15_13) rfl rfl rfl all0 tri ?_
  intro v5 T5 h5 lo5 W5 K5 q5
  obtain rfl := q5.2.2
  show Gl _ _ _ _ _ _ _ _ []
  refine o_aloadN W5 17 (hb hy d15_16) rfl rfl rfl ?_
  have c6 := (c2.keep K5 nin0)
  refine o_getF W5 (w30 hw) Via.refl c6 20 (hb hy d15_17) rfl ?_
  intro T7 W7
  refine o_iloadN W7 21 (hb hy d15_20) rfl rfl ?_
  have c8 := (c4.keep K5 nin0)
  refine o_baload W7 c8 (x := (bB x1)) (i := 0) (by decide) (by decide) (by decide) rfl 22 (hb hy d15_21) rfl <| o_sipush W7 (v := 255) 25 (hb hy d15_22) (by decide) rfl <| o_iand W7 (v := x1) 26 (hb hy d15_25) (own_lo8 (own_cb (own_cpc hu9 hc10) hc11)) rfl ?_
  exact o_retI W7 hlk hret (hb hy d15_26) (by decide) (by decide) rfl
theorem rm27 (l : Launch) {Z a0} (hw : HW Z a0) (a1 a2 : Addr) (z0 : ClassId) (x1 : Int32) (h0 : Heap) (O0 : Old Z Z.heap.size h0) (z1 : Arv Z h0 a1 z0 .char 1 [(.int x1)] iZ) (hu1 : own_cp x1) (hc2 : x1 < (65536 : Int32)) (hc3 : (255 : Int32) < x1) :
    CtrN l Z mn16 jdk_52_method_21_code 7 (some .int) [] (⟨0, 0, 0, 0⟩ : Room) #[(.ref a1), iZ, (.ref a2), iZ, (.int 1)] h0 [] (fun v h => v = some iZ) := by
  refine CtrN.intro (L0 := #[vr a1, vi 0, vr a2, vi 0, vi 1, un, un]) (plainFor_of_name pn5) O0 (own_entry rfl) ?_
  intro p e s m below meth c T0 hy hml hret hlk hnm W0
  refine o_iconst W0 (v := 0) 1 (hb hy d13_0) rfl rfl <| o_istore W0 (L' := #[vr a1, vi 0, vr a2, vi 0, vi 1, vi 0, un]) 3 (hb hy d13_1) rfl rfl <| o_iload W0 5 (hb hy d13_3) rfl rfl <| o_iload W0 7 (hb hy d13_5) rfl rfl <| o_icmpN W0 10 (hb hy d13_7) (XT.ii_ge_f (by decide)) rfl <| o_aloadN W0 11 (hb hy d13_10) rfl rfl rfl ?_
  refine o_iloadN W0 12 (hb hy d13_11) rfl rfl <| o_caload W0 z1 (x := x1) (i := 0) (by decide) (by decide) (by decide) rfl 13 (hb hy d13_12) rfl <| o_istore W0 (L' := #[vr a1, vi 0, vr a2, vi 0, vi 1, vi 0, vi x1]) 15 (hb hy d13_13) rfl rfl <| o_iload W0 17 (hb hy d13_15) rfl rfl <| o_sipush W0 (v := 255) 20 (hb hy d13_17) (by decide) rfl <| o_icmpN W0 23 (hb hy d13_20) (XT.ii_le_f hc3) rfl ?_
  refine o_iload W0 25 (hb hy d13_23) rfl rfl ?_
  exact o_retI W0 hlk hret (hb hy d13_25) (by decide) (by decide) rfl
theorem rm28 (l : Launch) {Z a0} (hw : HW Z a0)  (h0 : Heap) (O0 : Old Z Z.heap.size h0) :
    CtrN l Z mn22 jdk_52_method_3_code 1 (some .int) [] (⟨0, 0, 0, 0⟩ : Room) #[(.int 1)] h0 [] (fun v h => v = some (.int 2)) := by
  refine CtrN.intro (L0 := #[vi 1]) (plainFor_of_name pn5) O0 (own_entry rfl) ?_
  intro p e s m below meth c T0 hy hml hret hlk hnm W0
  refine o_iloadN W0 1 (hb hy d23_0) rfl rfl <| o_ifY W0 12 (hb hy d23_1) (XT.i0_ge_t (by decide)) (by decide) rfl <| o_iloadN W0 13 (hb hy d23_12) rfl rfl <| o_ldcI W0 (w103 hw) 15 (hb hy d23_13) rfl <| o_icmpY W0 55 (hb hy d23_15) (XT.ii_lt_t (by decide)) (by decide) rfl <| o_iloadN W0 56 (hb hy d23_55) rfl rfl ?_
  refine o_iconst W0 (v := 1) 57 (hb hy d23_56) rfl rfl <| o_ishl W0 (v := 2) 58 (hb hy d23_57) (by decide) rfl ?_
  exact o_retI W0 hlk hret (hb hy d23_58) (by decide) (by decide) rfl
theorem rm29 (l : Launch) {Z a0} (hw : HW Z a0)  (h0 : Heap) (O0 : Old Z Z.heap.size h0) :
    CtrN l Z mn23 jdk_52_method_2_code 1 (some (.array .byte)) [] (⟨1, 1, 2, 12⟩ : Room) #[(.int 1)] h0 [] (fun v h => ∃ r1 : Addr, ∃ r2 : ClassId, h0.size ≤ r1 ∧ Arv Z h r1 r2 .byte 2 [iZ, iZ] iZ ∧ v = some (.ref r1)) := by
  refine CtrN.intro (L0 := #[vi 1]) (plainFor_of_name pn5) O0 (own_entry rfl) ?_
  intro p e s m below meth c T0 hy hml hret hlk hnm W0
  refine o_iloadN W0 1 (hb hy d22_0) rfl rfl ?_
  refine o_staticC W0 (w100 hw) (w101 hw) (w60 hw) (w102 hw) (by decide) (rm28 l hw  h0 W0.old ) 0 0 0 (by decide) (by rw [hml]; rfl) (lenOf pd8 rfl) [] rfl rfl 4 (hb hy d22_1) rfl rfl rfl all0 tri ?_
  intro v1 T1 h1 lo1 W1 K1 q1
  obtain rfl := q1.2.2
  show Gl _ _ _ _ _ _ _ _ [(.int 2)]
  refine o_newP W1 (aty := .byte) (w25 hw) tri (by decide) (cap := 2) (by decide) (by decide) 6 (hb hy d22_4) rfl (cells' := 1) (slots' := 2) rfl rfl (by decide) (by decide) (vs := [iZ, iZ]) (dv := iZ) rfl rfl ?_
  intro b2 T2 h2 k2 W2 E2 ge2 gz2 gb2 V2
  exact o_retA W2 hlk (v := (.ref b2)) hret rfl rfl (hb hy d22_6) (by decide) (by decide) ⟨b2, k2, gb2, V2, rfl⟩
theorem rm30 (l : Launch) {Z a0} (hw : HW Z a0) (a1 : Addr) (x1 : Int32) (z0 : ClassId) (h0 : Heap) (O0 : Old Z Z.heap.size h0) (z1 : Sta Z Z.heap s0 s2 "Z" (.int 1)) (z2 : Sta Z Z.heap s0 s3 "I" iZ) (z3 : Arv Z h0 a1 z0 .byte 2 [iZ, iZ] iZ) (z4 : Z.heap.size ≤ a1) (z5 : Sta Z Z.heap s0 s4 "I" (.int 8)) :
    CtrN l Z mn24 jdk_52_method_4_code 3 none [] (⟨0, 0, 0, 0⟩ : Room) #[(.ref a1), iZ, (.int x1)] h0 [a1] (fun v h => Arv Z h a1 z0 .byte 2 [(.int (bH x1)), (.int (bL x1))] iZ ∧ v = none) := by
  refine CtrN.intro (L0 := #[vr a1, vi 0, vi x1]) (plainFor_of_name pn5) O0 (own_entry rfl) ?_
  intro p e s m below meth c T0 hy hml hret hlk hnm W0
  refine o_getS W0 (w107 hw) Via.refl (z1.ext W0.ox) 3 (hb hy d24_0) rfl ?_
  intro T1 W1
  refine o_ifY W1 28 (hb hy d24_3) (XT.i0_ne_t (by decide)) (by decide) rfl <| o_iloadN W1 29 (hb hy d24_28) rfl rfl <| o_iconst W1 (v := 1) 30 (hb hy d24_29) rfl rfl <| o_ishl W1 (v := 0) 31 (hb hy d24_30) (by decide) rfl <| o_istoreN W1 (L' := #[vr a1, vi 0, vi x1]) 32 (hb hy d24_31) rfl rfl <| o_aloadN W1 33 (hb hy d24_32) rfl rfl rfl ?_
  refine o_iloadN W1 34 (hb hy d24_33) rfl rfl <| o_iinc W1 (v := 1) (L' := #[vr a1, vi 1, vi x1]) 37 (hb hy d24_34) rfl (by decide) rfl rfl <| o_iloadN W1 38 (hb hy d24_37) rfl rfl ?_
  refine o_getS W1 (w108 hw) Via.refl (z2.ext W1.ox) 41 (hb hy d24_38) rfl ?_
  intro T2 W2
  refine o_ishr W2 (v := (x1 >>> ((0 : Int32) &&& 31))) 42 (hb hy d24_41) rfl rfl <| o_i2b W2 (v := (bH x1)) 43 (hb hy d24_42) rfl rfl ?_
  refine o_stB W2 z3 (i := 0) (x' := (bH x1)) (by decide) (by decide) (by decide) (Nat.lt_of_sub_eq_succ rfl) (own_b8 _) (vs' := [(.int (bH x1)), iZ]) rfl z4 m0 tri 44 (hb hy d24_43) rfl ?_
  intro T3 h3 lo3 W3 R3 V3
  refine o_aloadN W3 45 (hb hy d24_44) rfl rfl rfl <| o_iloadN W3 46 (hb hy d24_45) rfl rfl <| o_iloadN W3 47 (hb hy d24_46) rfl rfl ?_
  refine o_getS W3 (w109 hw) Via.refl (z5.ext W3.ox) 50 (hb hy d24_47) rfl ?_
  intro T4 W4
  refine o_ishr W4 (v := (x1 >>> ((8 : Int32) &&& 31))) 51 (hb hy d24_50) rfl rfl <| o_i2b W4 (v := (bL x1)) 52 (hb hy d24_51) rfl rfl ?_
  refine o_stB W4 V3 (i := 1) (x' := (bL x1)) (by decide) (by decide) (by decide) (Nat.lt_of_sub_eq_succ rfl) (own_b8 _) (vs' := [(.int (bH x1)), (.int (bL x1))]) rfl z4 m0 tri 53 (hb hy d24_52) rfl ?_
  intro T5 h5 lo5 W5 R5 V5
  exact o_ret0 W5 hlk hret (hb hy d24_53) (by decide) (by decide) ⟨V5, rfl⟩
theorem rm31 (l : Launch) {Z a0} (hw : HW Z a0) (a1 : Addr) (z0 : ClassId) (x1 : Int32) (h0 : Heap) (O0 : Old Z Z.heap.size h0) (z1 : Arv Z h0 a1 z0 .char 1 [(.int x1)] iZ) (z2 : Sta Z Z.heap s0 s2 "Z" (.int 1)) (z3 : Sta Z Z.heap s0 s3 "I" iZ) (z4 : Sta Z Z.heap s0 s4 "I" (.int 8)) :
    CtrN l Z mn25 jdk_52_method_14_code 5 (some (.array .byte)) [] (⟨2, 1, 2, 24⟩ : Room) #[(.ref a1), iZ, (.int 1)] h0 [] (fun v h => ∃ r1 : Addr, ∃ r2 : ClassId, h0.size ≤ r1 ∧ Arv Z h r1 r2 .byte 2 [(.int (bH x1)), (.int (bL x1))] iZ ∧ v = some (.ref r1)) := by
  refine CtrN.intro (L0 := #[vr a1, vi 0, vi 1, un, un]) (plainFor_of_name pn5) O0 (own_entry rfl) ?_
  intro p e s m below meth c T0 hy hml hret hlk hnm W0
  refine o_iloadN W0 1 (hb hy d21_0) rfl rfl ?_
  refine o_staticC W0 (w97 hw) (w98 hw) (w60 hw) (w99 hw) (by decide) (rm29 l hw  h0 W0.old ) 0 1 2 (by decide) (by rw [hml]; rfl) (lenOf pd15 rfl) [] rfl rfl 4 (hb hy d21_1) rfl rfl rfl all0 tri ?_
  intro v1 T1 h1 lo1 W1 K1 q1
  obtain ⟨r1_1, r2_1, P1_0, P1_1, rfl⟩ := q1.2.2
  show Gl _ _ _ _ _ _ _ _ [(.ref r1_1)]
  refine o_astoreN W1 (L' := #[vr a1, vi 0, vi 1, vr r1_1, un]) 5 (hb hy d21_4) rfl rfl rfl <| o_iconst W1 (v := 0) 6 (hb hy d21_5) rfl rfl <| o_istore W1 (L' := #[vr a1, vi 0, vi 1, vr r1_1, vi 0]) 8 (hb hy d21_6) rfl rfl <| o_iload W1 10 (hb hy d21_8) rfl rfl <| o_iloadN W1 11 (hb hy d21_10) rfl rfl <| o_icmpN W1 14 (hb hy d21_11) (XT.ii_ge_f (by decide)) rfl ?_
  refine o_aloadN W1 15 (hb hy d21_14) rfl rfl rfl <| o_iload W1 17 (hb hy d21_15) rfl rfl <| o_aloadN W1 18 (hb hy d21_17) rfl rfl rfl <| o_iloadN W1 19 (hb hy d21_18) rfl rfl ?_
  have c2 := (z1.keep K1 nin0)
  refine o_caload W1 c2 (x := x1) (i := 0) (by decide) (by decide) (by decide) rfl 20 (hb hy d21_19) rfl ?_
  refine o_staticC W1 (w104 hw) (w105 hw) (w60 hw) (w106 hw) (by decide) (rm30 l hw r1_1 x1 r2_1 h1 W1.old z2 z3 P1_1 (Nat.le_trans W0.zs P1_0) z4) 0 1 2 (by decide) (by rw [hml]; rfl) (lenOf pd16 rfl) [] rfl rfl 23 (hb hy d21_20) rfl rfl rfl (allS ⟨(Nat.le_trans W0.zs P1_0), (Or.inr (Nat.le_trans W0.keep.1 P1_0))⟩ all0) tri ?_
  intro v3 T3 h3 lo3 W3 K3 q3
  obtain ⟨P3_0, rfl⟩ := q3.2.2
  show Gl _ _ _ _ _ _ _ _ []
  refine o_iinc W3 (v := 1) (L' := #[vr a1, vi 1, vi 1, vr r1_1, vi 0]) 26 (hb hy d21_23) rfl (by decide) rfl rfl <| o_iinc W3 (v := 1) (L' := #[vr a1, vi 1, vi 1, vr r1_1, vi 1]) 29 (hb hy d21_26) rfl (by decide) rfl rfl <| o_goto W3 8 (hb hy d21_29) (by decide) rfl <| o_iload W3 10 (hb hy d21_8) rfl rfl <| o_iloadN W3 11 (hb hy d21_10) rfl rfl <| o_icmpY W3 32 (hb hy d21_11) (XT.ii_ge_t (by decide)) (by decide) rfl ?_
  refine o_aloadN W3 33 (hb hy d21_32) rfl rfl rfl ?_
  exact o_retA W3 hlk (v := (.ref r1_1)) hret rfl rfl (hb hy d21_33) (by decide) (by decide) ⟨r1_1, r2_1, (Nat.le_trans W0.keep.1 P1_0), P3_0, rfl⟩
theorem rm32 (l : Launch) {Z a0} (hw : HW Z a0) (a1 : Addr) (z0 : ClassId) (x1 : Int32) (h0 : Heap) (O0 : Old Z Z.heap.size h0) (z1 : Sta Z Z.heap s0 s2 "Z" (.int 1)) (z2 : Arv Z h0 a1 z0 .byte 2 [(.int (bH x1)), (.int (bL x1))] iZ) (z3 : Sta Z Z.heap s0 s3 "I" iZ) (z4 : Sta Z Z.heap s0 s4 "I" (.int 8)) (hu4 : own_cp x1) (hc5 : x1 < (65536 : Int32)) :
    CtrN l Z mn26 jdk_52_method_5_code 2 (some .char) [] (⟨0, 0, 0, 0⟩ : Room) #[(.ref a1), iZ] h0 [] (fun v h => v = some (.int x1)) := by
  refine CtrN.intro (L0 := #[vr a1, vi 0]) (plainFor_of_name pn5) O0 (own_entry rfl) ?_
  intro p e s m below meth c T0 hy hml hret hlk hnm W0
  refine o_getS W0 (w107 hw) Via.refl (z1.ext W0.ox) 3 (hb hy d25_0) rfl ?_
  intro T1 W1
  refine o_ifY W1 28 (hb hy d25_3) (XT.i0_ne_t (by decide)) (by decide) rfl <| o_iloadN W1 29 (hb hy d25_28) rfl rfl <| o_iconst W1 (v := 1) 30 (hb hy d25_29) rfl rfl <| o_ishl W1 (v := 0) 31 (hb hy d25_30) (by decide) rfl <| o_istoreN W1 (L' := #[vr a1, vi 0]) 32 (hb hy d25_31) rfl rfl <| o_aloadN W1 33 (hb hy d25_32) rfl rfl rfl ?_
  refine o_iloadN W1 34 (hb hy d25_33) rfl rfl <| o_iinc W1 (v := 1) (L' := #[vr a1, vi 1]) 37 (hb hy d25_34) rfl (by decide) rfl rfl <| o_baload W1 z2 (x := (bH x1)) (i := 0) (by decide) (by decide) (by decide) rfl 38 (hb hy d25_37) rfl <| o_sipush W1 (v := 255) 41 (hb hy d25_38) (by decide) rfl <| o_iand W1 (v := ((bH x1) &&& 255)) 42 (hb hy d25_41) rfl rfl ?_
  refine o_getS W1 (w108 hw) Via.refl (z3.ext W1.ox) 45 (hb hy d25_42) rfl ?_
  intro T2 W2
  refine o_ishl W2 (v := (((bH x1) &&& 255) <<< ((0 : Int32) &&& 31))) 46 (hb hy d25_45) rfl rfl <| o_aloadN W2 47 (hb hy d25_46) rfl rfl rfl <| o_iloadN W2 48 (hb hy d25_47) rfl rfl <| o_baload W2 z2 (x := (bL x1)) (i := 1) (by decide) (by decide) (by decide) rfl 49 (hb hy d25_48) rfl <| o_sipush W2 (v := 255) 52 (hb hy d25_49) (by decide) rfl <| o_iand W2 (v := ((bL x1) &&& 255)) 53 (hb hy d25_52) rfl rfl ?_
  refine o_getS W2 (w109 hw) Via.refl (z4.ext W2.ox) 56 (hb hy d25_53) rfl ?_
  intro T3 W3
  refine o_ishl W3 (v := (((bL x1) &&& 255) <<< ((8 : Int32) &&& 31))) 57 (hb hy d25_56) rfl rfl <| o_ior W3 (v := ((((bH x1) &&& 255) <<< ((0 : Int32) &&& 31)) ||| (((bL x1) &&& 255) <<< ((8 : Int32) &&& 31)))) 58 (hb hy d25_57) rfl rfl <| o_i2c W3 (v := x1) 59 (hb hy d25_58) (own_join (own_cpc hu4 hc5)) rfl ?_
  exact o_retN W3 hlk (t := .char) hret (by simp) (z' := x1) (own_i2cc (own_cpc hu4 hc5)) (hb hy d25_59) (by decide) (by decide) rfl
theorem rm33 (l : Launch) {Z a0} (hw : HW Z a0) (a1 : Addr) (z0 : ClassId) (x1 : Int32) (h0 : Heap) (O0 : Old Z Z.heap.size h0) (z1 : Arv Z h0 a1 z0 .char 1 [(.int x1)] iZ) (hu3 : own_cp x1) (hc4 : x1 < (65536 : Int32)) (hc5 : (255 : Int32) < x1) (z2 : Sta Z Z.heap s0 s2 "Z" (.int 1)) (z3 : Sta Z Z.heap s0 s3 "I" iZ) (z4 : Sta Z Z.heap s0 s4 "I" (.int 8)) :
    CtrN l Z mn17 jdk_52_method_16_code 6 (some (.array .byte)) [] (⟨3, 2, 3, 40⟩ : Room) #[(.ref a1), iZ, (.int 1)] h0 [] (fun v h => ∃ r1 : Addr, ∃ r2 : ClassId, h0.size ≤ r1 ∧ Arv Z h r1 r2 .byte 2 [(.int (bH x1)), (.int (bL x1))] iZ ∧ v = some (.ref r1)) := by
  refine CtrN.intro (L0 := #[vr a1, vi 0, vi 1, un, un, un]) (plainFor_of_name pn5) O0 (own_entry rfl) ?_
  intro p e s m below meth c T0 hy hml hret hlk hnm W0
  refine o_iloadN W0 1 (hb hy d12_0) rfl rfl ?_
  refine o_newP W0 (aty := .byte) (w25 hw) tri (by decide) (cap := 1) (by decide) (by decide) 3 (hb hy d12_1) rfl (cells' := 1) (slots' := 1) rfl rfl (by decide) (by decide) (vs := [iZ]) (dv := iZ) rfl rfl ?_
  intro b1 T1 h1 k1 W1 E1 ge1 gz1 gb1 V1
  refine o_astoreN W1 (L' := #[vr a1, vi 0, vi 1, vr b1, un, un]) 4 (hb hy d12_3) rfl rfl rfl <| o_aloadN W1 5 (hb hy d12_4) rfl rfl rfl <| o_iloadN W1 6 (hb hy d12_5) rfl rfl <| o_aloadN W1 7 (hb hy d12_6) rfl rfl rfl <| o_iconst W1 (v := 0) 8 (hb hy d12_7) rfl rfl <| o_iloadN W1 9 (hb hy d12_8) rfl rfl ?_
  have c2 := (z1.ext E1)
  refine o_staticC W1 (w62 hw) (w63 hw) (w60 hw) (w64 hw) (by decide) (rm27 l hw a1 b1 z0 x1 h1 W1.old c2 hu3 hc4 hc5) 0 1 1 (by decide) (by rw [hml]; rfl) (lenOf pd9 rfl) [] rfl rfl 12 (hb hy d12_9) rfl rfl rfl all0 tri ?_
  intro v6 T6 h6 lo6 W6 K6 q6
  obtain rfl := q6.2.2
  show Gl _ _ _ _ _ _ _ _ [iZ]
  refine o_istore W6 (L' := #[vr a1, vi 0, vi 1, vr b1, vi 0, un]) 14 (hb hy d12_12) rfl rfl <| o_iload W6 16 (hb hy d12_14) rfl rfl <| o_iloadN W6 17 (hb hy d12_16) rfl rfl <| o_icmpN W6 20 (hb hy d12_17) (XT.ii_eq_f (by decide)) rfl <| o_aloadN W6 21 (hb hy d12_20) rfl rfl rfl <| o_iloadN W6 22 (hb hy d12_21) rfl rfl ?_
  refine o_iloadN W6 23 (hb hy d12_22) rfl rfl ?_
  have c7 := (c2.keep K6 nin0)
  refine o_staticC W6 (w94 hw) (w95 hw) (w60 hw) (w96 hw) (by decide) (rm31 l hw a1 z0 x1 h6 W6.old c7 z2 z3 z4) 0 2 3 (by decide) (by rw [hml]; rfl) (lenOf pd10 rfl) [] rfl rfl 26 (hb hy d12_23) rfl rfl rfl all0 tri ?_
  intro v8 T8 h8 lo8 W8 K8 q8
  obtain ⟨r1_8, r2_8, P8_0, P8_1, rfl⟩ := q8.2.2
  show Gl _ _ _ _ _ _ _ _ [(.ref r1_8)]
  refine o_astore W8 (L' := #[vr a1, vi 0, vi 1, vr b1, vi 0, vr r1_8]) 28 (hb hy d12_26) rfl rfl rfl <| o_aload W8 30 (hb hy d12_28) rfl rfl rfl <| o_iload W8 32 (hb hy d12_30) rfl rfl ?_
  refine o_staticC W8 (w110 hw) (w111 hw) (w60 hw) (w112 hw) (by decide) (rm32 l hw r1_8 r2_8 x1 h8 W8.old z2 P8_1 z3 z4 hu3 hc4) 0 2 3 (by decide) (by rw [hml]; rfl) (lenOf pd17 rfl) [] rfl rfl 35 (hb hy d12_32) rfl rfl rfl all0 tri ?_
  intro v9 T9 h9 lo9 W9 K9 q9
  obtain rfl := q9.2.2
  show Gl _ _ _ _ _ _ _ _ [(.int x1)]
  refine o_sipush W9 (v := 255) 38 (hb hy d12_35) (by decide) rfl <| o_icmpY W9 54 (hb hy d12_38) (XT.ii_gt_t hc5) (by decide) rfl <| o_aload W9 56 (hb hy d12_54) rfl rfl rfl ?_
  have c10 := (P8_1.keep K9 nin0)
  exact o_retA W9 hlk (v := (.ref r1_8)) hret rfl rfl (hb hy d12_56) (by decide) (by decide) ⟨r1_8, r2_8, (Nat.le_trans W6.keep.1 P8_0), c10, rfl⟩
theorem rm34 (l : Launch) {Z a0} (hw : HW Z a0) (a1 : Addr) (z0 : ClassId) (x1 : Int32) (h0 : Heap) (O0 : Old Z Z.heap.size h0) (z1 : Arv Z h0 a1 z0 .byte 2 [(.int (bH x1)), (.int (bL x1))] iZ) :
    CtrN l Z mn18 jdk_52_method_15_code 2 (some .byte) [] (⟨0, 0, 0, 0⟩ : Room) #[(.ref a1), (.int 1)] h0 [] (fun v h => v = some (.int 1)) := by
  refine CtrN.intro (L0 := #[vr a1, vi 1]) (plainFor_of_name pn5) O0 (own_entry rfl) ?_
  intro p e s m below meth c T0 hy hml hret hlk hnm W0
  refine o_iloadN W0 1 (hb hy d14_0) rfl rfl <| o_aloadN W0 2 (hb hy d14_1) rfl rfl rfl <| o_len W0 z1 3 (hb hy d14_2) rfl <| o_isub W0 (v := (-1 : Int32)) 4 (hb hy d14_3) (by decide) rfl <| o_bipush W0 (v := 31) 6 (hb hy d14_4) (by decide) rfl <| o_iushr W0 (v := 1) 7 (hb hy d14_6) (by decide) rfl ?_
  refine o_i2b W0 (v := 1) 8 (hb hy d14_7) (by decide) rfl ?_
  exact o_retN W0 hlk (t := .byte) hret (by simp) (z' := (1 : Int32)) (by decide) (hb hy d14_8) (by decide) (by decide) rfl
theorem rm35 (l : Launch) {Z a0} (hw : HW Z a0) (gCS : Int32) (a1 a2 : Addr) (z0 : ClassId) (x1 : Int32) (h0 : Heap) (O0 : Old Z Z.heap.size h0) (SgCS : Sta Z Z.heap s1 s5 "Z" (.int gCS)) (NgCS : ¬ (gCS = (0 : Int32))) (z1 : Arv Z h0 a2 z0 .char 1 [(.int x1)] iZ) (hu3 : own_cp x1) (hc4 : x1 < (65536 : Int32)) (hc5 : (255 : Int32) < x1) (z2 : Sta Z Z.heap s0 s2 "Z" (.int 1)) (z3 : Sta Z Z.heap s0 s3 "I" iZ) (z4 : Sta Z Z.heap s0 s4 "I" (.int 8)) (z5 : Exa Z h0 a1 s1) (z6 : Fld Z h0 a1 s1 "coder" "B" iZ) (z7 : Z.heap.size ≤ a1) (z8 : Fld Z h0 a1 s1 "value" "[B" .null) :
    CtrN l Z mn8 jdk_42_method_149_code 6 none [] (⟨4, 2, 3, 57⟩ : Room) #[(.ref a1), (.ref a2), iZ, (.int 1), .null] h0 [a1] (fun v h => ∃ r1 : Addr, ∃ r2 : ClassId, h0.size ≤ r1 ∧ Fld Z h a1 s1 "coder" "B" (.int 1) ∧ Fld Z h a1 s1 "value" "[B" (.ref r1) ∧ Arv Z h r1 r2 .byte 2 [(.int (bH x1)), (.int (bL x1))] iZ ∧ v = none) := by
  refine CtrN.intro (L0 := #[vr a1, vr a2, vi 0, vi 1, .val .null, un]) (plainFor_of_name pn2) O0 (own_entry rfl) ?_
  intro p e s m below meth c T0 hy hml hret hlk hnm W0
  refine o_aloadN W0 1 (hb hy d4_0) rfl rfl rfl ?_
  refine o_initO W0 (w21 hw) (w22 hw) (w23 hw) (by rw [hml]; rfl) 4 (hb hy d4_1) rfl (by decide) 0 (by exact Nat.le_of_eq rfl) (by decide) ?_
  intro T1 W1
  refine o_iloadN W1 5 (hb hy d4_4) rfl rfl <| o_ifY W1 27 (hb hy d4_5) (XT.i0_ne_t (by decide)) (by decide) rfl ?_
  refine o_getS W1 (w49 hw) Via.refl (SgCS.ext W1.ox) 30 (hb hy d4_27) rfl ?_
  intro T2 W2
  refine o_ifN W2 33 (hb hy d4_30) (XT.i0_eq_f NgCS) rfl <| o_aloadN W2 34 (hb hy d4_33) rfl rfl rfl <| o_iloadN W2 35 (hb hy d4_34) rfl rfl <| o_iloadN W2 36 (hb hy d4_35) rfl rfl ?_
  refine o_staticC W2 (w58 hw) (w59 hw) (w60 hw) (w61 hw) (by decide) (rm33 l hw a2 z0 x1 h0 W2.old z1 hu3 hc4 hc5 z2 z3 z4) 0 2 3 (by decide) (by rw [hml]; rfl) (lenOf pd10 rfl) [] rfl rfl 39 (hb hy d4_36) rfl rfl rfl all0 tri ?_
  intro v6 T6 h6 lo6 W6 K6 q6
  obtain ⟨r1_6, r2_6, P6_0, P6_1, rfl⟩ := q6.2.2
  show Gl _ _ _ _ _ _ _ _ [(.ref r1_6)]
  refine o_astore W6 (L' := #[vr a1, vr a2, vi 0, vi 1, .val .null, vr r1_6]) 41 (hb hy d4_39) rfl rfl rfl <| o_aloadN W6 42 (hb hy d4_41) rfl rfl rfl <| o_aload W6 44 (hb hy d4_42) rfl rfl rfl <| o_iloadN W6 45 (hb hy d4_44) rfl rfl ?_
  refine o_staticC W6 (w65 hw) (w66 hw) (w60 hw) (w67 hw) (by decide) (rm34 l hw r1_6 r2_6 x1 h6 W6.old P6_1) 1 2 3 (by decide) (by rw [hml]; rfl) (lenOf pd11 rfl) [(.ref a1)] rfl rfl 48 (hb hy d4_45) rfl rfl rfl all0 tri ?_
  intro v7 T7 h7 lo7 W7 K7 q7
  obtain rfl := q7.2.2
  show Gl _ _ _ _ _ _ _ _ [(.int 1), (.ref a1)]
  have c8 := ((z5.keep K6).keep K7)
  have c9 := ((z6.keep K6 nin0).keep K7 nin0)
  refine o_putF W7 (w31 hw) Via.refl c9 c8 (Or.inr ⟨(w27 hw), rfl, hnm⟩) (w11 hw) (ty := .byte) (v' := (.int 1)) (by decide) rfl (by decide) z7 m0 tri 51 (hb hy d4_48) rfl ?_
  intro T10 h10 lo10 W10 R10
  have F10 := c9.same R10
  refine o_aloadN W10 52 (hb hy d4_51) rfl rfl rfl <| o_aload W10 54 (hb hy d4_52) rfl rfl rfl ?_
  have c11 := (c8.wr R10)
  have c12 := (((z8.keep K6 nin0).keep K7 nin0).other R10 (Or.inr (slot_ne (Or.inr (w26 hw)) (Or.inr (w27 hw)) (by decide) (t := (.array .byte)) (t' := .byte) (by decide) (by decide))))
  refine o_putF W10 (w30 hw) Via.refl c12 c11 (Or.inr ⟨(w26 hw), rfl, hnm⟩) (w11 hw) (ty := (.array .byte)) (v' := (.ref r1_6)) (by decide) rfl rfl z7 m0 tri 57 (hb hy d4_54) rfl ?_
  intro T13 h13 lo13 W13 R13
  have F13 := c12.same R13
  have c14 := (F10.other R13 (Or.inr (slot_ne (Or.inr (w27 hw)) (Or.inr (w26 hw)) (by decide) (t := .byte) (t' := (.array .byte)) (by decide) (by decide))))
  have c15 := (c11.wr R13)
  have c16 := (((P6_1.keep K7 nin0).other R10 (own_ne' z5.lt P6_0)).other R13 (own_ne' z5.lt P6_0))
  exact o_ret0 W13 hlk hret (hb hy d4_57) (by decide) (by decide) ⟨r1_6, r2_6, (Nat.le_trans W2.keep.1 P6_0), c14, F13, c16, rfl⟩
theorem rm36 (l : Launch) {Z a0} (hw : HW Z a0) (gCS : Int32) (a1 a2 : Addr) (z0 : ClassId) (x1 : Int32) (h0 : Heap) (O0 : Old Z Z.heap.size h0) (z1 : Arv Z h0 a2 z0 .char 1 [(.int x1)] iZ) (SgCS : Sta Z Z.heap s1 s5 "Z" (.int gCS)) (NgCS : ¬ (gCS = (0 : Int32))) (hu1 : own_cp x1) (hc2 : x1 < (65536 : Int32)) (hc3 : (255 : Int32) < x1) (z2 : Sta Z Z.heap s0 s2 "Z" (.int 1)) (z3 : Sta Z Z.heap s0 s3 "I" iZ) (z4 : Sta Z Z.heap s0 s4 "I" (.int 8)) (z5 : Exa Z h0 a1 s1) (z6 : Fld Z h0 a1 s1 "coder" "B" iZ) (z7 : Fld Z h0 a1 s1 "value" "[B" .null) (z8 : Z.heap.size ≤ a1) :
    CtrN l Z mn9 jdk_42_method_3_code 2 none [] (⟨5, 2, 3, 74⟩ : Room) #[(.ref a1), (.ref a2)] h0 [a1] (fun v h => ∃ r1 : Addr, ∃ r2 : ClassId, h0.size ≤ r1 ∧ Fld Z h a1 s1 "coder" "B" (.int 1) ∧ Fld Z h a1 s1 "value" "[B" (.ref r1) ∧ Arv Z h r1 r2 .byte 2 [(.int (bH x1)), (.int (bL x1))] iZ ∧ v = none) := by
  refine CtrN.intro (L0 := #[vr a1, vr a2]) (plainFor_of_name pn2) O0 (own_entry rfl) ?_
  intro p e s m below meth c T0 hy hml hret hlk hnm W0
  refine o_aloadN W0 1 (hb hy d3_0) rfl rfl rfl <| o_aloadN W0 2 (hb hy d3_1) rfl rfl rfl <| o_iconst W0 (v := 0) 3 (hb hy d3_2) rfl rfl <| o_aloadN W0 4 (hb hy d3_3) rfl rfl rfl <| o_len W0 z1 5 (hb hy d3_4) rfl ?_
  refine o_aconstNull W0 6 (hb hy d3_5) rfl ?_
  refine o_specialC W0 rfl (w17 hw) (w18 hw) (w20 hw) (by decide) (w12 hw) (rm35 l hw gCS a1 a2 z0 x1 h0 W0.old SgCS NgCS z1 hu1 hc2 hc3 z2 z3 z4 z5 z6 z8 z7) 0 2 3 (by decide) (by rw [hml]; rfl) (lenOf pd1 rfl) [] rfl rfl 9 (hb hy d3_6) rfl rfl rfl (allS ⟨z8, m0⟩ all0) tri ?_
  intro v4 T4 h4 lo4 W4 K4 q4
  obtain ⟨r1_4, r2_4, P4_0, P4_1, P4_2, P4_3, rfl⟩ := q4.2.2
  show Gl _ _ _ _ _ _ _ _ []
  have c5 := (z5.keep K4)
  exact o_ret0 W4 hlk hret (hb hy d3_9) (by decide) (by decide) ⟨r1_4, r2_4, (Nat.le_trans W0.keep.1 P4_0), P4_1, P4_2, P4_3, rfl⟩
theorem rm37 (l : Launch) {Z a0} (hw : HW Z a0) (gCS : Int32) (a1 : Addr) (h0 : Heap) (O0 : Old Z Z.heap.size h0) (SgCS : Sta Z Z.heap s1 s5 "Z" (.int gCS)) (NgCS : ¬ (gCS = (0 : Int32))) (z0 : Fld Z h0 a1 s1 "coder" "B" (.int 1)) :
    CtrN l Z mn10 jdk_42_method_152_code 1 (some .byte) [] (⟨0, 0, 0, 0⟩ : Room) #[(.ref a1)] h0 [] (fun v h => v = some (.int 1)) := by
  refine CtrN.intro (L0 := #[vr a1]) (plainFor_of_name pn2) O0 (own_entry rfl) ?_
  intro p e s m below meth c T0 hy hml hret hlk hnm W0
  refine o_getS W0 (w49 hw) Via.refl (SgCS.ext W0.ox) 3 (hb hy d9_0) rfl ?_
  intro T1 W1
  refine o_ifN W1 6 (hb hy d9_3) (XT.i0_eq_f NgCS) rfl <| o_aloadN W1 7 (hb hy d9_6) rfl rfl rfl ?_
  refine o_getF W1 (w31 hw) Via.refl z0 10 (hb hy d9_7) rfl ?_
  intro T2 W2
  refine o_goto W2 14 (hb hy d9_10) (by decide) rfl ?_
  exact o_retN W2 hlk (t := .byte) hret (by simp) (z' := (1 : Int32)) (by decide) (hb hy d9_14) (by decide) (by decide) rfl
theorem rm38 (l : Launch) {Z a0} (hw : HW Z a0) (gCS : Int32) (a1 a2 : Addr) (z0 : ClassId) (x1 : Int32) (h0 : Heap) (O0 : Old Z Z.heap.size h0) (z1 : Fld Z h0 a1 s1 "value" "[B" (.ref a2)) (z2 : Arv Z h0 a2 z0 .byte 2 [(.int (bH x1)), (.int (bL x1))] iZ) (z3 : Exa Z h0 a1 s1) (SgCS : Sta Z Z.heap s1 s5 "Z" (.int gCS)) (NgCS : ¬ (gCS = (0 : Int32))) (z4 : Fld Z h0 a1 s1 "coder" "B" (.int 1)) :
    CtrN l Z mn0 jdk_42_method_54_code 1 (some .int) [] (⟨1, 0, 0, 14⟩ : Room) #[(.ref a1)] h0 [] (fun v h => v = some (.int 1)) := by
  refine CtrN.intro (L0 := #[vr a1]) (plainFor_of_name pn2) O0 (own_entry rfl) ?_
  intro p e s m below meth c T0 hy hml hret hlk hnm W0
  refine o_aloadN W0 1 (hb hy d8_0) rfl rfl rfl ?_
  refine o_getF W0 (w30 hw) Via.refl z1 4 (hb hy d8_1) rfl ?_
  intro T1 W1
  refine o_len W1 z2 5 (hb hy d8_4) rfl <| o_aloadN W1 6 (hb hy d8_5) rfl rfl rfl ?_
  refine o_virtualC W1 (w44 hw) (w45 hw) (o_nf W1 rfl (w47 hw)) (w47 hw) (w46 hw) (by decide) z3 (w48 hw) (w12 hw) (rm37 l hw gCS a1 h0 W1.old SgCS NgCS z4) 1 0 0 (by decide) (by rw [hml]; rfl) (lenOf pd3 rfl) [(.int 2)] rfl rfl 9 (hb hy d8_6) rfl rfl rfl all0 tri ?_
  intro v2 T2 h2 lo2 W2 K2 q2
  obtain rfl := q2.2.2
  show Gl _ _ _ _ _ _ _ _ [(.int 1), (.int 2)]
  refine o_ishr W2 (v := 1) 10 (hb hy d8_9) (by decide) rfl ?_
  exact o_retI W2 hlk hret (hb hy d8_10) (by decide) (by decide) rfl
theorem rm39 (l : Launch) {Z a0} (hw : HW Z a0) (gCS : Int32) (a1 : Addr) (h0 : Heap) (O0 : Old Z Z.heap.size h0) (SgCS : Sta Z Z.heap s1 s5 "Z" (.int gCS)) (NgCS : ¬ (gCS = (0 : Int32))) (z0 : Fld Z h0 a1 s1 "coder" "B" (.int 1)) :
    CtrN l Z mn19 jdk_42_method_154_code 1 (some .boolean) [] (⟨0, 0, 0, 0⟩ : Room) #[(.ref a1)] h0 [] (fun v h => v = some iZ) := by
  refine CtrN.intro (L0 := #[vr a1]) (plainFor_of_name pn2) O0 (own_entry rfl) ?_
  intro p e s m below meth c T0 hy hml hret hlk hnm W0
  refine o_getS W0 (w49 hw) Via.refl (SgCS.ext W0.ox) 3 (hb hy d16_0) rfl ?_
  intro T1 W1
  refine o_ifN W1 6 (hb hy d16_3) (XT.i0_eq_f NgCS) rfl <| o_aloadN W1 7 (hb hy d16_6) rfl rfl rfl ?_
  refine o_getF W1 (w31 hw) Via.refl z0 10 (hb hy d16_7) rfl ?_
  intro T2 W2
  refine o_ifY W2 17 (hb hy d16_10) (XT.i0_ne_t (by decide)) (by decide) rfl <| o_iconst W2 (v := 0) 18 (hb hy d16_17) rfl rfl ?_
  exact o_retN W2 hlk (t := .boolean) hret (by simp) (z' := (0 : Int32)) (by decide) (hb hy d16_18) (by decide) (by decide) rfl
theorem rm40 (l : Launch) {Z a0} (hw : HW Z a0) (a1 : Addr) (z0 : ClassId) (x1 : Int32) (h0 : Heap) (O0 : Old Z Z.heap.size h0) (z1 : Sta Z Z.heap s0 s2 "Z" (.int 1)) (z2 : Arv Z h0 a1 z0 .byte 2 [(.int (bH x1)), (.int (bL x1))] iZ) (z3 : Sta Z Z.heap s0 s3 "I" iZ) (z4 : Sta Z Z.heap s0 s4 "I" (.int 8)) (hu2 : own_cp x1) (hc3 : x1 < (65536 : Int32)) (hc6 : (own_hs x1) = (0 : Int32)) :
    CtrN l Z mn27 jdk_52_method_7_code 6 (some .int) [] (⟨1, 0, 0, 13⟩ : Room) #[(.ref a1), iZ, (.int 1), iZ] h0 [] (fun v h => v = some (.int x1)) := by
  refine CtrN.intro (L0 := #[vr a1, vi 0, vi 1, vi 0, un, un]) (plainFor_of_name pn5) O0 (own_entry rfl) ?_
  intro p e s m below meth c T0 hy hml hret hlk hnm W0
  refine o_getS W0 (w107 hw) Via.refl (z1.ext W0.ox) 3 (hb hy d28_0) rfl ?_
  intro T1 W1
  refine o_ifY W1 19 (hb hy d28_3) (XT.i0_ne_t (by decide)) (by decide) rfl <| o_iloadN W1 20 (hb hy d28_19) rfl rfl <| o_ifY W1 28 (hb hy d28_20) (XT.i0_eq_t (by decide)) (by decide) rfl <| o_aloadN W1 29 (hb hy d28_28) rfl rfl rfl <| o_iloadN W1 30 (hb hy d28_29) rfl rfl ?_
  refine o_staticC W1 (w110 hw) (w111 hw) (w60 hw) (w112 hw) (by decide) (rm32 l hw a1 z0 x1 h0 W1.old z1 z2 z3 z4 hu2 hc3) 0 0 0 (by decide) (by rw [hml]; rfl) (lenOf pd17 rfl) [] rfl rfl 33 (hb hy d28_30) rfl rfl rfl all0 tri ?_
  intro v4 T4 h4 lo4 W4 K4 q4
  obtain rfl := q4.2.2
  show Gl _ _ _ _ _ _ _ _ [(.int x1)]
  refine o_istore W4 (L' := #[vr a1, vi 0, vi 1, vi 0, vi x1, un]) 35 (hb hy d28_33) rfl rfl <| o_iload W4 37 (hb hy d28_35) rfl rfl ?_
  refine o_staticC W4 (w124 hw) (w125 hw) (w115 hw) (w126 hw) (by decide) (rm4 l hw x1 h4 W4.old ) 0 0 0 (by decide) (by rw [hml]; rfl) (lenOf pd18 rfl) [] rfl rfl 40 (hb hy d28_37) rfl rfl rfl all0 tri ?_
  intro v5 T5 h5 lo5 W5 K5 q5
  obtain rfl := q5.2.2
  show Gl _ _ _ _ _ _ _ _ [(.int (own_hs x1))]
  refine o_ifY W5 83 (hb hy d28_40) (XT.i0_eq_t hc6) (by decide) rfl <| o_iload W5 85 (hb hy d28_83) rfl rfl ?_
  exact o_retI W5 hlk hret (hb hy d28_85) (by decide) (by decide) rfl
theorem rm41 (l : Launch) {Z a0} (hw : HW Z a0) (a1 : Addr) (z0 : ClassId) (x1 : Int32) (h0 : Heap) (O0 : Old Z Z.heap.size h0) (z1 : Sta Z Z.heap s0 s2 "Z" (.int 1)) (z2 : Arv Z h0 a1 z0 .byte 2 [(.int (bH x1)), (.int (bL x1))] iZ) (z3 : Sta Z Z.heap s0 s3 "I" iZ) (z4 : Sta Z Z.heap s0 s4 "I" (.int 8)) (hu1 : own_cp x1) (hc2 : x1 < (65536 : Int32)) (hc3 : (own_hs x1) = (0 : Int32)) :
    CtrN l Z mn28 jdk_52_method_8_code 3 (some .int) [] (⟨2, 0, 0, 30⟩ : Room) #[(.ref a1), iZ, (.int 1)] h0 [] (fun v h => v = some (.int x1)) := by
  refine CtrN.intro (L0 := #[vr a1, vi 0, vi 1]) (plainFor_of_name pn5) O0 (own_entry rfl) ?_
  intro p e s m below meth c T0 hy hml hret hlk hnm W0
  refine o_aloadN W0 1 (hb hy d27_0) rfl rfl rfl <| o_iloadN W0 2 (hb hy d27_1) rfl rfl <| o_iloadN W0 3 (hb hy d27_2) rfl rfl <| o_iconst W0 (v := 0) 4 (hb hy d27_3) rfl rfl ?_
  refine o_staticC W0 (w121 hw) (w122 hw) (w60 hw) (w123 hw) (by decide) (rm40 l hw a1 z0 x1 h0 W0.old z1 z2 z3 z4 hu1 hc2 hc3) 0 0 0 (by decide) (by rw [hml]; rfl) (lenOf pd19 rfl) [] rfl rfl 7 (hb hy d27_4) rfl rfl rfl all0 tri ?_
  intro v4 T4 h4 lo4 W4 K4 q4
  obtain rfl := q4.2.2
  show Gl _ _ _ _ _ _ _ _ [(.int x1)]
  exact o_retI W4 hlk hret (hb hy d27_7) (by decide) (by decide) rfl
theorem rm42 (l : Launch) {Z a0} (hw : HW Z a0) (a1 : Addr) (z0 : ClassId) (x1 : Int32) (h0 : Heap) (O0 : Old Z Z.heap.size h0) (z1 : Sta Z Z.heap s0 s2 "Z" (.int 1)) (z2 : Arv Z h0 a1 z0 .byte 2 [(.int (bH x1)), (.int (bL x1))] iZ) (z3 : Sta Z Z.heap s0 s3 "I" iZ) (z4 : Sta Z Z.heap s0 s4 "I" (.int 8)) (hu2 : own_cp x1) (hc3 : x1 < (65536 : Int32)) (hc6 : ¬ ((own_hs x1) = (0 : Int32))) :
    CtrN l Z mn27 jdk_52_method_7_code 6 (some .int) [] (⟨1, 0, 0, 13⟩ : Room) #[(.ref a1), iZ, (.int 1), iZ] h0 [] (fun v h => v = some (.int x1)) := by
  refine CtrN.intro (L0 := #[vr a1, vi 0, vi 1, vi 0, un, un]) (plainFor_of_name pn5) O0 (own_entry rfl) ?_
  intro p e s m below meth c T0 hy hml hret hlk hnm W0
  refine o_getS W0 (w107 hw) Via.refl (z1.ext W0.ox) 3 (hb hy d28_0) rfl ?_
  intro T1 W1
  refine o_ifY W1 19 (hb hy d28_3) (XT.i0_ne_t (by decide)) (by decide) rfl <| o_iloadN W1 20 (hb hy d28_19) rfl rfl <| o_ifY W1 28 (hb hy d28_20) (XT.i0_eq_t (by decide)) (by decide) rfl <| o_aloadN W1 29 (hb hy d28_28) rfl rfl rfl <| o_iloadN W1 30 (hb hy d28_29) rfl rfl ?_
  refine o_staticC W1 (w110 hw) (w111 hw) (w60 hw) (w112 hw) (by decide) (rm32 l hw a1 z0 x1 h0 W1.old z1 z2 z3 z4 hu2 hc3) 0 0 0 (by decide) (by rw [hml]; rfl) (lenOf pd17 rfl) [] rfl rfl 33 (hb hy d28_30) rfl rfl rfl all0 tri ?_
  intro v4 T4 h4 lo4 W4 K4 q4
  obtain rfl := q4.2.2
  show Gl _ _ _ _ _ _ _ _ [(.int x1)]
  refine o_istore W4 (L' := #[vr a1, vi 0, vi 1, vi 0, vi x1, un]) 35 (hb hy d28_33) rfl rfl <| o_iload W4 37 (hb hy d28_35) rfl rfl ?_
  refine o_staticC W4 (w124 hw) (w125 hw) (w115 hw) (w126 hw) (by decide) (rm4 l hw x1 h4 W4.old ) 0 0 0 (by decide) (by rw [hml]; rfl) (lenOf pd18 rfl) [] rfl rfl 40 (hb hy d28_37) rfl rfl rfl all0 tri ?_
  intro v5 T5 h5 lo5 W5 K5 q5
  obtain rfl := q5.2.2
  show Gl _ _ _ _ _ _ _ _ [(.int (own_hs x1))]
  refine o_ifN W5 43 (hb hy d28_40) (XT.i0_eq_f hc6) rfl <| o_iinc W5 (v := 1) (L' := #[vr a1, vi 1, vi 1, vi 0, vi x1, un]) 46 (hb hy d28_43) rfl (by decide) rfl rfl <| o_iloadN W5 47 (hb hy d28_46) rfl rfl <| o_iloadN W5 48 (hb hy d28_47) rfl rfl <| o_icmpY W5 83 (hb hy d28_48) (XT.ii_ge_t (by decide)) (by decide) rfl <| o_iload W5 85 (hb hy d28_83) rfl rfl ?_
  exact o_retI W5 hlk hret (hb hy d28_85) (by decide) (by decide) rfl
theorem rm43 (l : Launch) {Z a0} (hw : HW Z a0) (a1 : Addr) (z0 : ClassId) (x1 : Int32) (h0 : Heap) (O0 : Old Z Z.heap.size h0) (z1 : Sta Z Z.heap s0 s2 "Z" (.int 1)) (z2 : Arv Z h0 a1 z0 .byte 2 [(.int (bH x1)), (.int (bL x1))] iZ) (z3 : Sta Z Z.heap s0 s3 "I" iZ) (z4 : Sta Z Z.heap s0 s4 "I" (.int 8)) (hu1 : own_cp x1) (hc2 : x1 < (65536 : Int32)) (hc3 : ¬ ((own_hs x1) = (0 : Int32))) :
    CtrN l Z mn28 jdk_52_method_8_code 3 (some .int) [] (⟨2, 0, 0, 30⟩ : Room) #[(.ref a1), iZ, (.int 1)] h0 [] (fun v h => v = some (.int x1)) := by
  refine CtrN.intro (L0 := #[vr a1, vi 0, vi 1]) (plainFor_of_name pn5) O0 (own_entry rfl) ?_
  intro p e s m below meth c T0 hy hml hret hlk hnm W0
  refine o_aloadN W0 1 (hb hy d27_0) rfl rfl rfl <| o_iloadN W0 2 (hb hy d27_1) rfl rfl <| o_iloadN W0 3 (hb hy d27_2) rfl rfl <| o_iconst W0 (v := 0) 4 (hb hy d27_3) rfl rfl ?_
  refine o_staticC W0 (w121 hw) (w122 hw) (w60 hw) (w123 hw) (by decide) (rm42 l hw a1 z0 x1 h0 W0.old z1 z2 z3 z4 hu1 hc2 hc3) 0 0 0 (by decide) (by rw [hml]; rfl) (lenOf pd19 rfl) [] rfl rfl 7 (hb hy d27_4) rfl rfl rfl all0 tri ?_
  intro v4 T4 h4 lo4 W4 K4 q4
  obtain rfl := q4.2.2
  show Gl _ _ _ _ _ _ _ _ [(.int x1)]
  exact o_retI W4 hlk hret (hb hy d27_7) (by decide) (by decide) rfl
theorem rm44 (l : Launch) {Z a0} (hw : HW Z a0) (gCS : Int32) (gF : Value) (a1 a2 : Addr) (z0 : ClassId) (x1 : Int32) (h0 : Heap) (O0 : Old Z Z.heap.size h0) (z1 : Exa Z h0 a1 s1) (SgCS : Sta Z Z.heap s1 s5 "Z" (.int gCS)) (NgCS : ¬ (gCS = (0 : Int32))) (z2 : Fld Z h0 a1 s1 "coder" "B" (.int 1)) (z3 : Fld Z h0 a1 s1 "value" "[B" (.ref a2)) (z4 : Arv Z h0 a2 z0 .byte 2 [(.int (bH x1)), (.int (bL x1))] iZ) (SgF : Sta Z Z.heap s6 s7 s8 gF) (NgF : gF.isRef = true) (z5 : Sta Z Z.heap s0 s2 "Z" (.int 1)) (z6 : Sta Z Z.heap s0 s3 "I" iZ) (z7 : Sta Z Z.heap s0 s4 "I" (.int 8)) (hu9 : own_cp x1) (hc10 : x1 < (65536 : Int32)) (hc13 : x1 < (65536 : Int32)) (hc16 : x1 < (65536 : Int32)) :
    CtrN l Z mn1 jdk_42_method_57_code 3 (some .int) [] (⟨6, 0, 0, 90⟩ : Room) #[(.ref a1), iZ] h0 [] (fun v h => v = some (.int x1)) := by
  refine CtrN.intro (L0 := #[vr a1, vi 0, un]) (plainFor_of_name pn2) O0 (own_entry rfl) ?_
  intro p e s m below meth c T0 hy hml hret hlk hnm W0
  refine o_aloadN W0 1 (hb hy d15_0) rfl rfl rfl ?_
  refine o_virtualC W0 (w73 hw) (w74 hw) (o_nf W0 rfl (w76 hw)) (w76 hw) (w75 hw) (by decide) z1 (w77 hw) (w12 hw) (rm39 l hw gCS a1 h0 W0.old SgCS NgCS z2) 0 0 0 (by decide) (by rw [hml]; rfl) (lenOf pd12 rfl) [] rfl rfl 4 (hb hy d15_1) rfl rfl rfl all0 tri ?_
  intro v1 T1 h1 lo1 W1 K1 q1
  obtain rfl := q1.2.2
  show Gl _ _ _ _ _ _ _ _ [iZ]
  refine o_ifY W1 27 (hb hy d15_4) (XT.i0_eq_t (by decide)) (by decide) rfl <| o_aloadN W1 28 (hb hy d15_27) rfl rfl rfl ?_
  have c2 := (z3.keep K1 nin0)
  refine o_getF W1 (w30 hw) Via.refl c2 31 (hb hy d15_28) rfl ?_
  intro T3 W3
  have c4 := (z4.keep K1 nin0)
  refine o_len W3 c4 32 (hb hy d15_31) rfl <| o_iconst W3 (v := 1) 33 (hb hy d15_32) rfl rfl <| o_ishr W3 (v := 1) 34 (hb hy d15_33) (by decide) rfl <| o_istoreN W3 (L' := #[vr a1, vi 0, vi 1]) 35 (hb hy d15_34) rfl rfl <| o_iloadN W3 36 (hb hy d15_35) rfl rfl <| o_iloadN W3 37 (hb hy d15_36) rfl rfl ?_
  refine o_staticC W3 (w78 hw) (w79 hw) (w12 hw) (w80 hw) (by decide) (rm25 l hw gF h1 W3.old SgF NgF) 0 0 0 (by decide) (by rw [hml]; rfl) (lenOf pd14 rfl) [] rfl rfl 40 (hb hy d15_37) rfl rfl rfl all0 tri ?_
  intro v5 T5 h5 lo5 W5 K5 q5
  obtain rfl := q5.2.2
  show Gl _ _ _ _ _ _ _ _ []
  refine o_aloadN W5 41 (hb hy d15_40) rfl rfl rfl ?_
  have c6 := (c2.keep K5 nin0)
  refine o_getF W5 (w30 hw) Via.refl c6 44 (hb hy d15_41) rfl ?_
  intro T7 W7
  refine o_iloadN W7 45 (hb hy d15_44) rfl rfl <| o_iloadN W7 46 (hb hy d15_45) rfl rfl ?_
  by_cases hq11 : (own_hs x1) = (0 : Int32)
  · have c12 := (c4.keep K5 nin0)
    refine o_staticC W7 (w118 hw) (w119 hw) (w60 hw) (w120 hw) (by decide) (rm41 l hw a2 z0 x1 h5 W7.old z5 c12 z6 z7 hu9 hc13 hq11) 0 0 0 (by decide) (by rw [hml]; rfl) (lenOf pd20 rfl) [] rfl rfl 49 (hb hy d15_46) rfl rfl rfl all0 tri ?_
    intro v14 T14 h14 lo14 W14 K14 q14
    obtain rfl := q14.2.2
    show Gl _ _ _ _ _ _ _ _ [(.int x1)]
    exact o_retI W14 hlk hret (hb hy d15_49) (by decide) (by decide) rfl
  · have c15 := (c4.keep K5 nin0)
    refine o_staticC W7 (w118 hw) (w119 hw) (w60 hw) (w120 hw) (by decide) (rm43 l hw a2 z0 x1 h5 W7.old z5 c15 z6 z7 hu9 hc16 hq11) 0 0 0 (by decide) (by rw [hml]; rfl) (lenOf pd20 rfl) [] rfl rfl 49 (hb hy d15_46) rfl rfl rfl all0 tri ?_
    intro v17 T17 h17 lo17 W17 K17 q17
    obtain rfl := q17.2.2
    show Gl _ _ _ _ _ _ _ _ [(.int x1)]
    exact o_retI W17 hlk hret (hb hy d15_49) (by decide) (by decide) rfl
theorem rm45 (l : Launch) {Z a0} (hw : HW Z a0) (a1 a2 : Addr) (z0 : ClassId) (x1 : Int32) (h0 : Heap) (O0 : Old Z Z.heap.size h0) (z1 : Arv Z h0 a1 z0 .char 2 [(.int (own_hi x1)), (.int (own_lo x1))] iZ) (hu1 : own_cp x1) (hc2 : ¬ (x1 < (65536 : Int32))) :
    CtrN l Z mn16 jdk_52_method_21_code 7 (some .int) [] (⟨0, 0, 0, 0⟩ : Room) #[(.ref a1), iZ, (.ref a2), iZ, (.int 2)] h0 [] (fun v h => v = some iZ) := by
  refine CtrN.intro (L0 := #[vr a1, vi 0, vr a2, vi 0, vi 2, un, un]) (plainFor_of_name pn5) O0 (own_entry rfl) ?_
  intro p e s m below meth c T0 hy hml hret hlk hnm W0
  refine o_iconst W0 (v := 0) 1 (hb hy d13_0) rfl rfl <| o_istore W0 (L' := #[vr a1, vi 0, vr a2, vi 0, vi 2, vi 0, un]) 3 (hb hy d13_1) rfl rfl <| o_iload W0 5 (hb hy d13_3) rfl rfl <| o_iload W0 7 (hb hy d13_5) rfl rfl <| o_icmpN W0 10 (hb hy d13_7) (XT.ii_ge_f (by decide)) rfl <| o_aloadN W0 11 (hb hy d13_10) rfl rfl rfl ?_
  refine o_iloadN W0 12 (hb hy d13_11) rfl rfl <| o_caload W0 z1 (x := (own_hi x1)) (i := 0) (by decide) (by decide) (by decide) rfl 13 (hb hy d13_12) rfl <| o_istore W0 (L' := #[vr a1, vi 0, vr a2, vi 0, vi 2, vi 0, vi (own_hi x1)]) 15 (hb hy d13_13) rfl rfl <| o_iload W0 17 (hb hy d13_15) rfl rfl <| o_sipush W0 (v := 255) 20 (hb hy d13_17) (by decide) rfl <| o_icmpN W0 23 (hb hy d13_20) (XT.ii_le_f (own_hiI (own_spI hu1 hc2)).2.2) rfl ?_
  refine o_iload W0 25 (hb hy d13_23) rfl rfl ?_
  exact o_retI W0 hlk hret (hb hy d13_25) (by decide) (by decide) rfl
theorem rm46 (l : Launch) {Z a0} (hw : HW Z a0)  (h0 : Heap) (O0 : Old Z Z.heap.size h0) :
    CtrN l Z mn22 jdk_52_method_3_code 1 (some .int) [] (⟨0, 0, 0, 0⟩ : Room) #[(.int 2)] h0 [] (fun v h => v = some (.int 4)) := by
  refine CtrN.intro (L0 := #[vi 2]) (plainFor_of_name pn5) O0 (own_entry rfl) ?_
  intro p e s m below meth c T0 hy hml hret hlk hnm W0
  refine o_iloadN W0 1 (hb hy d23_0) rfl rfl <| o_ifY W0 12 (hb hy d23_1) (XT.i0_ge_t (by decide)) (by decide) rfl <| o_iloadN W0 13 (hb hy d23_12) rfl rfl <| o_ldcI W0 (w103 hw) 15 (hb hy d23_13) rfl <| o_icmpY W0 55 (hb hy d23_15) (XT.ii_lt_t (by decide)) (by decide) rfl <| o_iloadN W0 56 (hb hy d23_55) rfl rfl ?_
  refine o_iconst W0 (v := 1) 57 (hb hy d23_56) rfl rfl <| o_ishl W0 (v := 4) 58 (hb hy d23_57) (by decide) rfl ?_
  exact o_retI W0 hlk hret (hb hy d23_58) (by decide) (by decide) rfl
theorem rm47 (l : Launch) {Z a0} (hw : HW Z a0)  (h0 : Heap) (O0 : Old Z Z.heap.size h0) :
    CtrN l Z mn23 jdk_52_method_2_code 1 (some (.array .byte)) [] (⟨1, 1, 4, 12⟩ : Room) #[(.int 2)] h0 [] (fun v h => ∃ r1 : Addr, ∃ r2 : ClassId, h0.size ≤ r1 ∧ Arv Z h r1 r2 .byte 4 [iZ, iZ, iZ, iZ] iZ ∧ v = some (.ref r1)) := by
  refine CtrN.intro (L0 := #[vi 2]) (plainFor_of_name pn5) O0 (own_entry rfl) ?_
  intro p e s m below meth c T0 hy hml hret hlk hnm W0
  refine o_iloadN W0 1 (hb hy d22_0) rfl rfl ?_
  refine o_staticC W0 (w100 hw) (w101 hw) (w60 hw) (w102 hw) (by decide) (rm46 l hw  h0 W0.old ) 0 0 0 (by decide) (by rw [hml]; rfl) (lenOf pd8 rfl) [] rfl rfl 4 (hb hy d22_1) rfl rfl rfl all0 tri ?_
  intro v1 T1 h1 lo1 W1 K1 q1
  obtain rfl := q1.2.2
  show Gl _ _ _ _ _ _ _ _ [(.int 4)]
  refine o_newP W1 (aty := .byte) (w25 hw) tri (by decide) (cap := 4) (by decide) (by decide) 6 (hb hy d22_4) rfl (cells' := 1) (slots' := 4) rfl rfl (by decide) (by decide) (vs := [iZ, iZ, iZ, iZ]) (dv := iZ) rfl rfl ?_
  intro b2 T2 h2 k2 W2 E2 ge2 gz2 gb2 V2
  exact o_retA W2 hlk (v := (.ref b2)) hret rfl rfl (hb hy d22_6) (by decide) (by decide) ⟨b2, k2, gb2, V2, rfl⟩
theorem rm48 (l : Launch) {Z a0} (hw : HW Z a0) (a1 : Addr) (x1 : Int32) (z0 : ClassId) (h0 : Heap) (O0 : Old Z Z.heap.size h0) (z1 : Sta Z Z.heap s0 s2 "Z" (.int 1)) (z2 : Sta Z Z.heap s0 s3 "I" iZ) (z3 : Arv Z h0 a1 z0 .byte 4 [iZ, iZ, iZ, iZ] iZ) (z4 : Z.heap.size ≤ a1) (z5 : Sta Z Z.heap s0 s4 "I" (.int 8)) :
    CtrN l Z mn24 jdk_52_method_4_code 3 none [] (⟨0, 0, 0, 0⟩ : Room) #[(.ref a1), iZ, (.int (own_hi x1))] h0 [a1] (fun v h => Arv Z h a1 z0 .byte 4 [(.int (((own_hi x1) >>> ((0 : Int32) &&& 31)).toInt8.toInt32)), (.int (((own_hi x1) >>> ((8 : Int32) &&& 31)).toInt8.toInt32)), iZ, iZ] iZ ∧ v = none) := by
  refine CtrN.intro (L0 := #[vr a1, vi 0, vi (own_hi x1)]) (plainFor_of_name pn5) O0 (own_entry rfl) ?_
  intro p e s m below meth c T0 hy hml hret hlk hnm W0
  refine o_getS W0 (w107 hw) Via.refl (z1.ext W0.ox) 3 (hb hy d24_0) rfl ?_
  intro T1 W1
  refine o_ifY W1 28 (hb hy d24_3) (XT.i0_ne_t (by decide)) (by decide) rfl <| o_iloadN W1 29 (hb hy d24_28) rfl rfl <| o_iconst W1 (v := 1) 30 (hb hy d24_29) rfl rfl <| o_ishl W1 (v := 0) 31 (hb hy d24_30) (by decide) rfl <| o_istoreN W1 (L' := #[vr a1, vi 0, vi (own_hi x1)]) 32 (hb hy d24_31) rfl rfl <| o_aloadN W1 33 (hb hy d24_32) rfl rfl rfl ?_
  refine o_iloadN W1 34 (hb hy d24_33) rfl rfl <| o_iinc W1 (v := 1) (L' := #[vr a1, vi 1, vi (own_hi x1)]) 37 (hb hy d24_34) rfl (by decide) rfl rfl <| o_iloadN W1 38 (hb hy d24_37) rfl rfl ?_
  refine o_getS W1 (w108 hw) Via.refl (z2.ext W1.ox) 41 (hb hy d24_38) rfl ?_
  intro T2 W2
  refine o_ishr W2 (v := ((own_hi x1) >>> ((0 : Int32) &&& 31))) 42 (hb hy d24_41) rfl rfl <| o_i2b W2 (v := (((own_hi x1) >>> ((0 : Int32) &&& 31)).toInt8.toInt32)) 43 (hb hy d24_42) rfl rfl ?_
  refine o_stB W2 z3 (i := 0) (x' := (((own_hi x1) >>> ((0 : Int32) &&& 31)).toInt8.toInt32)) (by decide) (by decide) (by decide) (Nat.lt_of_sub_eq_succ rfl) (own_b8 _) (vs' := [(.int (((own_hi x1) >>> ((0 : Int32) &&& 31)).toInt8.toInt32)), iZ, iZ, iZ]) rfl z4 m0 tri 44 (hb hy d24_43) rfl ?_
  intro T3 h3 lo3 W3 R3 V3
  refine o_aloadN W3 45 (hb hy d24_44) rfl rfl rfl <| o_iloadN W3 46 (hb hy d24_45) rfl rfl <| o_iloadN W3 47 (hb hy d24_46) rfl rfl ?_
  refine o_getS W3 (w109 hw) Via.refl (z5.ext W3.ox) 50 (hb hy d24_47) rfl ?_
  intro T4 W4
  refine o_ishr W4 (v := ((own_hi x1) >>> ((8 : Int32) &&& 31))) 51 (hb hy d24_50) rfl rfl <| o_i2b W4 (v := (((own_hi x1) >>> ((8 : Int32) &&& 31)).toInt8.toInt32)) 52 (hb hy d24_51) rfl rfl ?_
  refine o_stB W4 V3 (i := 1) (x' := (((own_hi x1) >>> ((8 : Int32) &&& 31)).toInt8.toInt32)) (by decide) (by decide) (by decide) (Nat.lt_of_sub_eq_succ rfl) (own_b8 _) (vs' := [(.int (((own_hi x1) >>> ((0 : Int32) &&& 31)).toInt8.toInt32)), (.int (((own_hi x1) >>> ((8 : Int32) &&& 31)).toInt8.toInt32)), iZ, iZ]) rfl z4 m0 tri 53 (hb hy d24_52) rfl ?_
  intro T5 h5 lo5 W5 R5 V5
  exact o_ret0 W5 hlk hret (hb hy d24_53) (by decide) (by decide) ⟨V5, rfl⟩
theorem rm49 (l : Launch) {Z a0} (hw : HW Z a0) (a1 : Addr) (x1 : Int32) (z0 : ClassId) (h0 : Heap) (O0 : Old Z Z.heap.size h0) (z1 : Sta Z Z.heap s0 s2 "Z" (.int 1)) (z2 : Sta Z Z.heap s0 s3 "I" iZ) (z3 : Arv Z h0 a1 z0 .byte 4 [(.int (((own_hi x1) >>> ((0 : Int32) &&& 31)).toInt8.toInt32)), (.int (((own_hi x1) >>> ((8 : Int32) &&& 31)).toInt8.toInt32)), iZ, iZ] iZ) (z4 : Z.heap.size ≤ a1) (z5 : Sta Z Z.heap s0 s4 "I" (.int 8)) :
    CtrN l Z mn24 jdk_52_method_4_code 3 none [] (⟨0, 0, 0, 0⟩ : Room) #[(.ref a1), (.int 1), (.int (own_lo x1))] h0 [a1] (fun v h => Arv Z h a1 z0 .byte 4 [(.int (((own_hi x1) >>> ((0 : Int32) &&& 31)).toInt8.toInt32)), (.int (((own_hi x1) >>> ((8 : Int32) &&& 31)).toInt8.toInt32)), (.int (((own_lo x1) >>> ((0 : Int32) &&& 31)).toInt8.toInt32)), (.int (((own_lo x1) >>> ((8 : Int32) &&& 31)).toInt8.toInt32))] iZ ∧ v = none) := by
  refine CtrN.intro (L0 := #[vr a1, vi 1, vi (own_lo x1)]) (plainFor_of_name pn5) O0 (own_entry rfl) ?_
  intro p e s m below meth c T0 hy hml hret hlk hnm W0
  refine o_getS W0 (w107 hw) Via.refl (z1.ext W0.ox) 3 (hb hy d24_0) rfl ?_
  intro T1 W1
  refine o_ifY W1 28 (hb hy d24_3) (XT.i0_ne_t (by decide)) (by decide) rfl <| o_iloadN W1 29 (hb hy d24_28) rfl rfl <| o_iconst W1 (v := 1) 30 (hb hy d24_29) rfl rfl <| o_ishl W1 (v := 2) 31 (hb hy d24_30) (by decide) rfl <| o_istoreN W1 (L' := #[vr a1, vi 2, vi (own_lo x1)]) 32 (hb hy d24_31) rfl rfl <| o_aloadN W1 33 (hb hy d24_32) rfl rfl rfl ?_
  refine o_iloadN W1 34 (hb hy d24_33) rfl rfl <| o_iinc W1 (v := 3) (L' := #[vr a1, vi 3, vi (own_lo x1)]) 37 (hb hy d24_34) rfl (by decide) rfl rfl <| o_iloadN W1 38 (hb hy d24_37) rfl rfl ?_
  refine o_getS W1 (w108 hw) Via.refl (z2.ext W1.ox) 41 (hb hy d24_38) rfl ?_
  intro T2 W2
  refine o_ishr W2 (v := ((own_lo x1) >>> ((0 : Int32) &&& 31))) 42 (hb hy d24_41) rfl rfl <| o_i2b W2 (v := (((own_lo x1) >>> ((0 : Int32) &&& 31)).toInt8.toInt32)) 43 (hb hy d24_42) rfl rfl ?_
  refine o_stB W2 z3 (i := 2) (x' := (((own_lo x1) >>> ((0 : Int32) &&& 31)).toInt8.toInt32)) (by decide) (by decide) (by decide) (Nat.lt_of_sub_eq_succ rfl) (own_b8 _) (vs' := [(.int (((own_hi x1) >>> ((0 : Int32) &&& 31)).toInt8.toInt32)), (.int (((own_hi x1) >>> ((8 : Int32) &&& 31)).toInt8.toInt32)), (.int (((own_lo x1) >>> ((0 : Int32) &&& 31)).toInt8.toInt32)), iZ]) rfl z4 m0 tri 44 (hb hy d24_43) rfl ?_
  intro T3 h3 lo3 W3 R3 V3
  refine o_aloadN W3 45 (hb hy d24_44) rfl rfl rfl <| o_iloadN W3 46 (hb hy d24_45) rfl rfl <| o_iloadN W3 47 (hb hy d24_46) rfl rfl ?_
  refine o_getS W3 (w109 hw) Via.refl (z5.ext W3.ox) 50 (hb hy d24_47) rfl ?_
  intro T4 W4
  refine o_ishr W4 (v := ((own_lo x1) >>> ((8 : Int32) &&& 31))) 51 (hb hy d24_50) rfl rfl <| o_i2b W4 (v := (((own_lo x1) >>> ((8 : Int32) &&& 31)).toInt8.toInt32)) 52 (hb hy d24_51) rfl rfl ?_
  refine o_stB W4 V3 (i := 3) (x' := (((own_lo x1) >>> ((8 : Int32) &&& 31)).toInt8.toInt32)) (by decide) (by decide) (by decide) (Nat.lt_of_sub_eq_succ rfl) (own_b8 _) (vs' := [(.int (((own_hi x1) >>> ((0 : Int32) &&& 31)).toInt8.toInt32)), (.int (((own_hi x1) >>> ((8 : Int32) &&& 31)).toInt8.toInt32)), (.int (((own_lo x1) >>> ((0 : Int32) &&& 31)).toInt8.toInt32)), (.int (((own_lo x1) >>> ((8 : Int32) &&& 31)).toInt8.toInt32))]) rfl z4 m0 tri 53 (hb hy d24_52) rfl ?_
  intro T5 h5 lo5 W5 R5 V5
  exact o_ret0 W5 hlk hret (hb hy d24_53) (by decide) (by decide) ⟨V5, rfl⟩
theorem rm50 (l : Launch) {Z a0} (hw : HW Z a0) (a1 : Addr) (z0 : ClassId) (x1 : Int32) (h0 : Heap) (O0 : Old Z Z.heap.size h0) (z1 : Arv Z h0 a1 z0 .char 2 [(.int (own_hi x1)), (.int (own_lo x1))] iZ) (z2 : Sta Z Z.heap s0 s2 "Z" (.int 1)) (z3 : Sta Z Z.heap s0 s3 "I" iZ) (z4 : Sta Z Z.heap s0 s4 "I" (.int 8)) :
    CtrN l Z mn25 jdk_52_method_14_code 5 (some (.array .byte)) [] (⟨2, 1, 4, 24⟩ : Room) #[(.ref a1), iZ, (.int 2)] h0 [] (fun v h => ∃ r1 : Addr, ∃ r2 : ClassId, h0.size ≤ r1 ∧ Arv Z h r1 r2 .byte 4 [(.int (((own_hi x1) >>> ((0 : Int32) &&& 31)).toInt8.toInt32)), (.int (((own_hi x1) >>> ((8 : Int32) &&& 31)).toInt8.toInt32)), (.int (((own_lo x1) >>> ((0 : Int32) &&& 31)).toInt8.toInt32)), (.int (((own_lo x1) >>> ((8 : Int32) &&& 31)).toInt8.toInt32))] iZ ∧ v = some (.ref r1)) := by
  refine CtrN.intro (L0 := #[vr a1, vi 0, vi 2, un, un]) (plainFor_of_name pn5) O0 (own_entry rfl) ?_
  intro p e s m below meth c T0 hy hml hret hlk hnm W0
  refine o_iloadN W0 1 (hb hy d21_0) rfl rfl ?_
  refine o_staticC W0 (w97 hw) (w98 hw) (w60 hw) (w99 hw) (by decide) (rm47 l hw  h0 W0.old ) 0 1 4 (by decide) (by rw [hml]; rfl) (lenOf pd15 rfl) [] rfl rfl 4 (hb hy d21_1) rfl rfl rfl all0 tri ?_
  intro v1 T1 h1 lo1 W1 K1 q1
  obtain ⟨r1_1, r2_1, P1_0, P1_1, rfl⟩ := q1.2.2
  show Gl _ _ _ _ _ _ _ _ [(.ref r1_1)]
  refine o_astoreN W1 (L' := #[vr a1, vi 0, vi 2, vr r1_1, un]) 5 (hb hy d21_4) rfl rfl rfl <| o_iconst W1 (v := 0) 6 (hb hy d21_5) rfl rfl <| o_istore W1 (L' := #[vr a1, vi 0, vi 2, vr r1_1, vi 0]) 8 (hb hy d21_6) rfl rfl <| o_iload W1 10 (hb hy d21_8) rfl rfl <| o_iloadN W1 11 (hb hy d21_10) rfl rfl <| o_icmpN W1 14 (hb hy d21_11) (XT.ii_ge_f (by decide)) rfl ?_
  refine o_aloadN W1 15 (hb hy d21_14) rfl rfl rfl <| o_iload W1 17 (hb hy d21_15) rfl rfl <| o_aloadN W1 18 (hb hy d21_17) rfl rfl rfl <| o_iloadN W1 19 (hb hy d21_18) rfl rfl ?_
  have c2 := (z1.keep K1 nin0)
  refine o_caload W1 c2 (x := (own_hi x1)) (i := 0) (by decide) (by decide) (by decide) rfl 20 (hb hy d21_19) rfl ?_
  refine o_staticC W1 (w104 hw) (w105 hw) (w60 hw) (w106 hw) (by decide) (rm48 l hw r1_1 x1 r2_1 h1 W1.old z2 z3 P1_1 (Nat.le_trans W0.zs P1_0) z4) 0 1 4 (by decide) (by rw [hml]; rfl) (lenOf pd16 rfl) [] rfl rfl 23 (hb hy d21_20) rfl rfl rfl (allS ⟨(Nat.le_trans W0.zs P1_0), (Or.inr (Nat.le_trans W0.keep.1 P1_0))⟩ all0) tri ?_
  intro v3 T3 h3 lo3 W3 K3 q3
  obtain ⟨P3_0, rfl⟩ := q3.2.2
  show Gl _ _ _ _ _ _ _ _ []
  refine o_iinc W3 (v := 1) (L' := #[vr a1, vi 1, vi 2, vr r1_1, vi 0]) 26 (hb hy d21_23) rfl (by decide) rfl rfl <| o_iinc W3 (v := 1) (L' := #[vr a1, vi 1, vi 2, vr r1_1, vi 1]) 29 (hb hy d21_26) rfl (by decide) rfl rfl <| o_goto W3 8 (hb hy d21_29) (by decide) rfl <| o_iload W3 10 (hb hy d21_8) rfl rfl <| o_iloadN W3 11 (hb hy d21_10) rfl rfl <| o_icmpN W3 14 (hb hy d21_11) (XT.ii_ge_f (by decide)) rfl ?_
  refine o_aloadN W3 15 (hb hy d21_14) rfl rfl rfl <| o_iload W3 17 (hb hy d21_15) rfl rfl <| o_aloadN W3 18 (hb hy d21_17) rfl rfl rfl <| o_iloadN W3 19 (hb hy d21_18) rfl rfl ?_
  have c4 := (c2.keep K3 (ninS (own_ne z1.lt P1_0) nin0))
  refine o_caload W3 c4 (x := (own_lo x1)) (i := 1) (by decide) (by decide) (by decide) rfl 20 (hb hy d21_19) rfl ?_
  refine o_staticC W3 (w104 hw) (w105 hw) (w60 hw) (w106 hw) (by decide) (rm49 l hw r1_1 x1 r2_1 h3 W3.old z2 z3 P3_0 (Nat.le_trans W0.zs P1_0) z4) 0 1 4 (by decide) (by rw [hml]; rfl) (lenOf pd16 rfl) [] rfl rfl 23 (hb hy d21_20) rfl rfl rfl (allS ⟨(Nat.le_trans W0.zs P1_0), (Or.inr (Nat.le_trans W0.keep.1 P1_0))⟩ all0) tri ?_
  intro v5 T5 h5 lo5 W5 K5 q5
  obtain ⟨P5_0, rfl⟩ := q5.2.2
  show Gl _ _ _ _ _ _ _ _ []
  refine o_iinc W5 (v := 2) (L' := #[vr a1, vi 2, vi 2, vr r1_1, vi 1]) 26 (hb hy d21_23) rfl (by decide) rfl rfl <| o_iinc W5 (v := 2) (L' := #[vr a1, vi 2, vi 2, vr r1_1, vi 2]) 29 (hb hy d21_26) rfl (by decide) rfl rfl <| o_goto W5 8 (hb hy d21_29) (by decide) rfl <| o_iload W5 10 (hb hy d21_8) rfl rfl <| o_iloadN W5 11 (hb hy d21_10) rfl rfl <| o_icmpY W5 32 (hb hy d21_11) (XT.ii_ge_t (by decide)) (by decide) rfl ?_
  refine o_aloadN W5 33 (hb hy d21_32) rfl rfl rfl ?_
  exact o_retA W5 hlk (v := (.ref r1_1)) hret rfl rfl (hb hy d21_33) (by decide) (by decide) ⟨r1_1, r2_1, (Nat.le_trans W0.keep.1 P1_0), P5_0, rfl⟩
theorem rm51 (l : Launch) {Z a0} (hw : HW Z a0) (a1 : Addr) (z0 : ClassId) (x1 : Int32) (h0 : Heap) (O0 : Old Z Z.heap.size h0) (z1 : Sta Z Z.heap s0 s2 "Z" (.int 1)) (z2 : Arv Z h0 a1 z0 .byte 4 [(.int (((own_hi x1) >>> ((0 : Int32) &&& 31)).toInt8.toInt32)), (.int (((own_hi x1) >>> ((8 : Int32) &&& 31)).toInt8.toInt32)), (.int (((own_lo x1) >>> ((0 : Int32) &&& 31)).toInt8.toInt32)), (.int (((own_lo x1) >>> ((8 : Int32) &&& 31)).toInt8.toInt32))] iZ) (z3 : Sta Z Z.heap s0 s3 "I" iZ) (z4 : Sta Z Z.heap s0 s4 "I" (.int 8)) :
    CtrN l Z mn26 jdk_52_method_5_code 2 (some .char) [] (⟨0, 0, 0, 0⟩ : Room) #[(.ref a1), iZ] h0 [] (fun v h => v = some (.int (own_hi x1))) := by
  refine CtrN.intro (L0 := #[vr a1, vi 0]) (plainFor_of_name pn5) O0 (own_entry rfl) ?_
  intro p e s m below meth c T0 hy hml hret hlk hnm W0
  refine o_getS W0 (w107 hw) Via.refl (z1.ext W0.ox) 3 (hb hy d25_0) rfl ?_
  intro T1 W1
  refine o_ifY W1 28 (hb hy d25_3) (XT.i0_ne_t (by decide)) (by decide) rfl <| o_iloadN W1 29 (hb hy d25_28) rfl rfl <| o_iconst W1 (v := 1) 30 (hb hy d25_29) rfl rfl <| o_ishl W1 (v := 0) 31 (hb hy d25_30) (by decide) rfl <| o_istoreN W1 (L' := #[vr a1, vi 0]) 32 (hb hy d25_31) rfl rfl <| o_aloadN W1 33 (hb hy d25_32) rfl rfl rfl ?_
  refine o_iloadN W1 34 (hb hy d25_33) rfl rfl <| o_iinc W1 (v := 1) (L' := #[vr a1, vi 1]) 37 (hb hy d25_34) rfl (by decide) rfl rfl <| o_baload W1 z2 (x := (((own_hi x1) >>> ((0 : Int32) &&& 31)).toInt8.toInt32)) (i := 0) (by decide) (by decide) (by decide) rfl 38 (hb hy d25_37) rfl <| o_sipush W1 (v := 255) 41 (hb hy d25_38) (by decide) rfl <| o_iand W1 (v := ((((own_hi x1) >>> ((0 : Int32) &&& 31)).toInt8.toInt32) &&& 255)) 42 (hb hy d25_41) rfl rfl ?_
  refine o_getS W1 (w108 hw) Via.refl (z3.ext W1.ox) 45 (hb hy d25_42) rfl ?_
  intro T2 W2
  refine o_ishl W2 (v := (((((own_hi x1) >>> ((0 : Int32) &&& 31)).toInt8.toInt32) &&& 255) <<< ((0 : Int32) &&& 31))) 46 (hb hy d25_45) rfl rfl <| o_aloadN W2 47 (hb hy d25_46) rfl rfl rfl <| o_iloadN W2 48 (hb hy d25_47) rfl rfl <| o_baload W2 z2 (x := (((own_hi x1) >>> ((8 : Int32) &&& 31)).toInt8.toInt32)) (i := 1) (by decide) (by decide) (by decide) rfl 49 (hb hy d25_48) rfl <| o_sipush W2 (v := 255) 52 (hb hy d25_49) (by decide) rfl <| o_iand W2 (v := ((((own_hi x1) >>> ((8 : Int32) &&& 31)).toInt8.toInt32) &&& 255)) 53 (hb hy d25_52) rfl rfl ?_
  refine o_getS W2 (w109 hw) Via.refl (z4.ext W2.ox) 56 (hb hy d25_53) rfl ?_
  intro T3 W3
  refine o_ishl W3 (v := (((((own_hi x1) >>> ((8 : Int32) &&& 31)).toInt8.toInt32) &&& 255) <<< ((8 : Int32) &&& 31))) 57 (hb hy d25_56) rfl rfl <| o_ior W3 (v := ((((((own_hi x1) >>> ((0 : Int32) &&& 31)).toInt8.toInt32) &&& 255) <<< ((0 : Int32) &&& 31)) ||| (((((own_hi x1) >>> ((8 : Int32) &&& 31)).toInt8.toInt32) &&& 255) <<< ((8 : Int32) &&& 31)))) 58 (hb hy d25_57) rfl rfl <| o_i2c W3 (v := (own_hi x1)) 59 (hb hy d25_58) (own_join (own_hic _)) rfl ?_
  exact o_retN W3 hlk (t := .char) hret (by simp) (z' := (own_hi x1)) (own_i2cc (own_hic _)) (hb hy d25_59) (by decide) (by decide) rfl
theorem rm52 (l : Launch) {Z a0} (hw : HW Z a0) (a1 : Addr) (z0 : ClassId) (x1 : Int32) (h0 : Heap) (O0 : Old Z Z.heap.size h0) (z1 : Arv Z h0 a1 z0 .char 2 [(.int (own_hi x1)), (.int (own_lo x1))] iZ) (hu3 : own_cp x1) (hc4 : ¬ (x1 < (65536 : Int32))) (z2 : Sta Z Z.heap s0 s2 "Z" (.int 1)) (z3 : Sta Z Z.heap s0 s3 "I" iZ) (z4 : Sta Z Z.heap s0 s4 "I" (.int 8)) :
    CtrN l Z mn17 jdk_52_method_16_code 6 (some (.array .byte)) [] (⟨3, 2, 6, 40⟩ : Room) #[(.ref a1), iZ, (.int 2)] h0 [] (fun v h => ∃ r1 : Addr, ∃ r2 : ClassId, h0.size ≤ r1 ∧ Arv Z h r1 r2 .byte 4 [(.int (((own_hi x1) >>> ((0 : Int32) &&& 31)).toInt8.toInt32)), (.int (((own_hi x1) >>> ((8 : Int32) &&& 31)).toInt8.toInt32)), (.int (((own_lo x1) >>> ((0 : Int32) &&& 31)).toInt8.toInt32)), (.int (((own_lo x1) >>> ((8 : Int32) &&& 31)).toInt8.toInt32))] iZ ∧ v = some (.ref r1)) := by
  refine CtrN.intro (L0 := #[vr a1, vi 0, vi 2, un, un, un]) (plainFor_of_name pn5) O0 (own_entry rfl) ?_
  intro p e s m below meth c T0 hy hml hret hlk hnm W0
  refine o_iloadN W0 1 (hb hy d12_0) rfl rfl ?_
  refine o_newP W0 (aty := .byte) (w25 hw) tri (by decide) (cap := 2) (by decide) (by decide) 3 (hb hy d12_1) rfl (cells' := 1) (slots' := 2) rfl rfl (by decide) (by decide) (vs := [iZ, iZ]) (dv := iZ) rfl rfl ?_
  intro b1 T1 h1 k1 W1 E1 ge1 gz1 gb1 V1
  refine o_astoreN W1 (L' := #[vr a1, vi 0, vi 2, vr b1, un, un]) 4 (hb hy d12_3) rfl rfl rfl <| o_aloadN W1 5 (hb hy d12_4) rfl rfl rfl <| o_iloadN W1 6 (hb hy d12_5) rfl rfl <| o_aloadN W1 7 (hb hy d12_6) rfl rfl rfl <| o_iconst W1 (v := 0) 8 (hb hy d12_7) rfl rfl <| o_iloadN W1 9 (hb hy d12_8) rfl rfl ?_
  have c2 := (z1.ext E1)
  refine o_staticC W1 (w62 hw) (w63 hw) (w60 hw) (w64 hw) (by decide) (rm45 l hw a1 b1 z0 x1 h1 W1.old c2 hu3 hc4) 0 1 2 (by decide) (by rw [hml]; rfl) (lenOf pd9 rfl) [] rfl rfl 12 (hb hy d12_9) rfl rfl rfl all0 tri ?_
  intro v5 T5 h5 lo5 W5 K5 q5
  obtain rfl := q5.2.2
  show Gl _ _ _ _ _ _ _ _ [iZ]
  refine o_istore W5 (L' := #[vr a1, vi 0, vi 2, vr b1, vi 0, un]) 14 (hb hy d12_12) rfl rfl <| o_iload W5 16 (hb hy d12_14) rfl rfl <| o_iloadN W5 17 (hb hy d12_16) rfl rfl <| o_icmpN W5 20 (hb hy d12_17) (XT.ii_eq_f (by decide)) rfl <| o_aloadN W5 21 (hb hy d12_20) rfl rfl rfl <| o_iloadN W5 22 (hb hy d12_21) rfl rfl ?_
  refine o_iloadN W5 23 (hb hy d12_22) rfl rfl ?_
  have c6 := (c2.keep K5 nin0)
  refine o_staticC W5 (w94 hw) (w95 hw) (w60 hw) (w96 hw) (by decide) (rm50 l hw a1 z0 x1 h5 W5.old c6 z2 z3 z4) 0 2 6 (by decide) (by rw [hml]; rfl) (lenOf pd10 rfl) [] rfl rfl 26 (hb hy d12_23) rfl rfl rfl all0 tri ?_
  intro v7 T7 h7 lo7 W7 K7 q7
  obtain ⟨r1_7, r2_7, P7_0, P7_1, rfl⟩ := q7.2.2
  show Gl _ _ _ _ _ _ _ _ [(.ref r1_7)]
  refine o_astore W7 (L' := #[vr a1, vi 0, vi 2, vr b1, vi 0, vr r1_7]) 28 (hb hy d12_26) rfl rfl rfl <| o_aload W7 30 (hb hy d12_28) rfl rfl rfl <| o_iload W7 32 (hb hy d12_30) rfl rfl ?_
  refine o_staticC W7 (w110 hw) (w111 hw) (w60 hw) (w112 hw) (by decide) (rm51 l hw r1_7 r2_7 x1 h7 W7.old z2 P7_1 z3 z4) 0 2 6 (by decide) (by rw [hml]; rfl) (lenOf pd17 rfl) [] rfl rfl 35 (hb hy d12_32) rfl rfl rfl all0 tri ?_
  intro v8 T8 h8 lo8 W8 K8 q8
  obtain rfl := q8.2.2
  show Gl _ _ _ _ _ _ _ _ [(.int (own_hi x1))]
  refine o_sipush W8 (v := 255) 38 (hb hy d12_35) (by decide) rfl <| o_icmpY W8 54 (hb hy d12_38) (XT.ii_gt_t (own_hiI (own_spI hu3 hc4)).2.2) (by decide) rfl <| o_aload W8 56 (hb hy d12_54) rfl rfl rfl ?_
  have c9 := (P7_1.keep K8 nin0)
  exact o_retA W8 hlk (v := (.ref r1_7)) hret rfl rfl (hb hy d12_56) (by decide) (by decide) ⟨r1_7, r2_7, (Nat.le_trans W5.keep.1 P7_0), c9, rfl⟩
theorem rm53 (l : Launch) {Z a0} (hw : HW Z a0) (a1 : Addr) (z0 : ClassId) (x1 : Int32) (h0 : Heap) (O0 : Old Z Z.heap.size h0) (z1 : Arv Z h0 a1 z0 .byte 4 [(.int (((own_hi x1) >>> ((0 : Int32) &&& 31)).toInt8.toInt32)), (.int (((own_hi x1) >>> ((8 : Int32) &&& 31)).toInt8.toInt32)), (.int (((own_lo x1) >>> ((0 : Int32) &&& 31)).toInt8.toInt32)), (.int (((own_lo x1) >>> ((8 : Int32) &&& 31)).toInt8.toInt32))] iZ) :
    CtrN l Z mn18 jdk_52_method_15_code 2 (some .byte) [] (⟨0, 0, 0, 0⟩ : Room) #[(.ref a1), (.int 2)] h0 [] (fun v h => v = some (.int 1)) := by
  refine CtrN.intro (L0 := #[vr a1, vi 2]) (plainFor_of_name pn5) O0 (own_entry rfl) ?_
  intro p e s m below meth c T0 hy hml hret hlk hnm W0
  refine o_iloadN W0 1 (hb hy d14_0) rfl rfl <| o_aloadN W0 2 (hb hy d14_1) rfl rfl rfl <| o_len W0 z1 3 (hb hy d14_2) rfl <| o_isub W0 (v := (-2 : Int32)) 4 (hb hy d14_3) (by decide) rfl <| o_bipush W0 (v := 31) 6 (hb hy d14_4) (by decide) rfl <| o_iushr W0 (v := 1) 7 (hb hy d14_6) (by decide) rfl ?_
  refine o_i2b W0 (v := 1) 8 (hb hy d14_7) (by decide) rfl ?_
  exact o_retN W0 hlk (t := .byte) hret (by simp) (z' := (1 : Int32)) (by decide) (hb hy d14_8) (by decide) (by decide) rfl
theorem rm54 (l : Launch) {Z a0} (hw : HW Z a0) (gCS : Int32) (a1 a2 : Addr) (z0 : ClassId) (x1 : Int32) (h0 : Heap) (O0 : Old Z Z.heap.size h0) (SgCS : Sta Z Z.heap s1 s5 "Z" (.int gCS)) (NgCS : ¬ (gCS = (0 : Int32))) (z1 : Arv Z h0 a2 z0 .char 2 [(.int (own_hi x1)), (.int (own_lo x1))] iZ) (hu3 : own_cp x1) (hc4 : ¬ (x1 < (65536 : Int32))) (z2 : Sta Z Z.heap s0 s2 "Z" (.int 1)) (z3 : Sta Z Z.heap s0 s3 "I" iZ) (z4 : Sta Z Z.heap s0 s4 "I" (.int 8)) (z5 : Exa Z h0 a1 s1) (z6 : Fld Z h0 a1 s1 "coder" "B" iZ) (z7 : Z.heap.size ≤ a1) (z8 : Fld Z h0 a1 s1 "value" "[B" .null) :
    CtrN l Z mn8 jdk_42_method_149_code 6 none [] (⟨4, 2, 6, 57⟩ : Room) #[(.ref a1), (.ref a2), iZ, (.int 2), .null] h0 [a1] (fun v h => ∃ r1 : Addr, ∃ r2 : ClassId, h0.size ≤ r1 ∧ Fld Z h a1 s1 "coder" "B" (.int 1) ∧ Fld Z h a1 s1 "value" "[B" (.ref r1) ∧ Arv Z h r1 r2 .byte 4 [(.int (((own_hi x1) >>> ((0 : Int32) &&& 31)).toInt8.toInt32)), (.int (((own_hi x1) >>> ((8 : Int32) &&& 31)).toInt8.toInt32)), (.int (((own_lo x1) >>> ((0 : Int32) &&& 31)).toInt8.toInt32)), (.int (((own_lo x1) >>> ((8 : Int32) &&& 31)).toInt8.toInt32))] iZ ∧ v = none) := by
  refine CtrN.intro (L0 := #[vr a1, vr a2, vi 0, vi 2, .val .null, un]) (plainFor_of_name pn2) O0 (own_entry rfl) ?_
  intro p e s m below meth c T0 hy hml hret hlk hnm W0
  refine o_aloadN W0 1 (hb hy d4_0) rfl rfl rfl ?_
  refine o_initO W0 (w21 hw) (w22 hw) (w23 hw) (by rw [hml]; rfl) 4 (hb hy d4_1) rfl (by decide) 0 (by exact Nat.le_of_eq rfl) (by decide) ?_
  intro T1 W1
  refine o_iloadN W1 5 (hb hy d4_4) rfl rfl <| o_ifY W1 27 (hb hy d4_5) (XT.i0_ne_t (by decide)) (by decide) rfl ?_
  refine o_getS W1 (w49 hw) Via.refl (SgCS.ext W1.ox) 30 (hb hy d4_27) rfl ?_
  intro T2 W2
  refine o_ifN W2 33 (hb hy d4_30) (XT.i0_eq_f NgCS) rfl <| o_aloadN W2 34 (hb hy d4_33) rfl rfl rfl <| o_iloadN W2 35 (hb hy d4_34) rfl rfl <| o_iloadN W2 36 (hb hy d4_35) rfl rfl ?_
  refine o_staticC W2 (w58 hw) (w59 hw) (w60 hw) (w61 hw) (by decide) (rm52 l hw a2 z0 x1 h0 W2.old z1 hu3 hc4 z2 z3 z4) 0 2 6 (by decide) (by rw [hml]; rfl) (lenOf pd10 rfl) [] rfl rfl 39 (hb hy d4_36) rfl rfl rfl all0 tri ?_
  intro v5 T5 h5 lo5 W5 K5 q5
  obtain ⟨r1_5, r2_5, P5_0, P5_1, rfl⟩ := q5.2.2
  show Gl _ _ _ _ _ _ _ _ [(.ref r1_5)]
  refine o_astore W5 (L' := #[vr a1, vr a2, vi 0, vi 2, .val .null, vr r1_5]) 41 (hb hy d4_39) rfl rfl rfl <| o_aloadN W5 42 (hb hy d4_41) rfl rfl rfl <| o_aload W5 44 (hb hy d4_42) rfl rfl rfl <| o_iloadN W5 45 (hb hy d4_44) rfl rfl ?_
  refine o_staticC W5 (w65 hw) (w66 hw) (w60 hw) (w67 hw) (by decide) (rm53 l hw r1_5 r2_5 x1 h5 W5.old P5_1) 1 2 6 (by decide) (by rw [hml]; rfl) (lenOf pd11 rfl) [(.ref a1)] rfl rfl 48 (hb hy d4_45) rfl rfl rfl all0 tri ?_
  intro v6 T6 h6 lo6 W6 K6 q6
  obtain rfl := q6.2.2
  show Gl _ _ _ _ _ _ _ _ [(.int 1), (.ref a1)]
  have c7 := ((z5.keep K5).keep K6)
  have c8 := ((z6.keep K5 nin0).keep K6 nin0)
  refine o_putF W6 (w31 hw) Via.refl c8 c7 (Or.inr ⟨(w27 hw), rfl, hnm⟩) (w11 hw) (ty := .byte) (v' := (.int 1)) (by decide) rfl (by decide) z7 m0 tri 51 (hb hy d4_48) rfl ?_
  intro T9 h9 lo9 W9 R9
  have F9 := c8.same R9
  refine o_aloadN W9 52 (hb hy d4_51) rfl rfl rfl <| o_aload W9 54 (hb hy d4_52) rfl rfl rfl ?_
  have c10 := (c7.wr R9)
  have c11 := (((z8.keep K5 nin0).keep K6 nin0).other R9 (Or.inr (slot_ne (Or.inr (w26 hw)) (Or.inr (w27 hw)) (by decide) (t := (.array .byte)) (t' := .byte) (by decide) (by decide))))
  refine o_putF W9 (w30 hw) Via.refl c11 c10 (Or.inr ⟨(w26 hw), rfl, hnm⟩) (w11 hw) (ty := (.array .byte)) (v' := (.ref r1_5)) (by decide) rfl rfl z7 m0 tri 57 (hb hy d4_54) rfl ?_
  intro T12 h12 lo12 W12 R12
  have F12 := c11.same R12
  have c13 := (F9.other R12 (Or.inr (slot_ne (Or.inr (w27 hw)) (Or.inr (w26 hw)) (by decide) (t := .byte) (t' := (.array .byte)) (by decide) (by decide))))
  have c14 := (c10.wr R12)
  have c15 := (((P5_1.keep K6 nin0).other R9 (own_ne' z5.lt P5_0)).other R12 (own_ne' z5.lt P5_0))
  exact o_ret0 W12 hlk hret (hb hy d4_57) (by decide) (by decide) ⟨r1_5, r2_5, (Nat.le_trans W2.keep.1 P5_0), c13, F12, c15, rfl⟩
theorem rm55 (l : Launch) {Z a0} (hw : HW Z a0) (gCS : Int32) (a1 a2 : Addr) (z0 : ClassId) (x1 : Int32) (h0 : Heap) (O0 : Old Z Z.heap.size h0) (z1 : Arv Z h0 a2 z0 .char 2 [(.int (own_hi x1)), (.int (own_lo x1))] iZ) (SgCS : Sta Z Z.heap s1 s5 "Z" (.int gCS)) (NgCS : ¬ (gCS = (0 : Int32))) (hu1 : own_cp x1) (hc2 : ¬ (x1 < (65536 : Int32))) (z2 : Sta Z Z.heap s0 s2 "Z" (.int 1)) (z3 : Sta Z Z.heap s0 s3 "I" iZ) (z4 : Sta Z Z.heap s0 s4 "I" (.int 8)) (z5 : Exa Z h0 a1 s1) (z6 : Fld Z h0 a1 s1 "coder" "B" iZ) (z7 : Fld Z h0 a1 s1 "value" "[B" .null) (z8 : Z.heap.size ≤ a1) :
    CtrN l Z mn9 jdk_42_method_3_code 2 none [] (⟨5, 2, 6, 74⟩ : Room) #[(.ref a1), (.ref a2)] h0 [a1] (fun v h => ∃ r1 : Addr, ∃ r2 : ClassId, h0.size ≤ r1 ∧ Fld Z h a1 s1 "coder" "B" (.int 1) ∧ Fld Z h a1 s1 "value" "[B" (.ref r1) ∧ Arv Z h r1 r2 .byte 4 [(.int (((own_hi x1) >>> ((0 : Int32) &&& 31)).toInt8.toInt32)), (.int (((own_hi x1) >>> ((8 : Int32) &&& 31)).toInt8.toInt32)), (.int (((own_lo x1) >>> ((0 : Int32) &&& 31)).toInt8.toInt32)), (.int (((own_lo x1) >>> ((8 : Int32) &&& 31)).toInt8.toInt32))] iZ ∧ v = none) := by
  refine CtrN.intro (L0 := #[vr a1, vr a2]) (plainFor_of_name pn2) O0 (own_entry rfl) ?_
  intro p e s m below meth c T0 hy hml hret hlk hnm W0
  refine o_aloadN W0 1 (hb hy d3_0) rfl rfl rfl <| o_aloadN W0 2 (hb hy d3_1) rfl rfl rfl <| o_iconst W0 (v := 0) 3 (hb hy d3_2) rfl rfl <| o_aloadN W0 4 (hb hy d3_3) rfl rfl rfl <| o_len W0 z1 5 (hb hy d3_4) rfl ?_
  refine o_aconstNull W0 6 (hb hy d3_5) rfl ?_
  refine o_specialC W0 rfl (w17 hw) (w18 hw) (w20 hw) (by decide) (w12 hw) (rm54 l hw gCS a1 a2 z0 x1 h0 W0.old SgCS NgCS z1 hu1 hc2 z2 z3 z4 z5 z6 z8 z7) 0 2 6 (by decide) (by rw [hml]; rfl) (lenOf pd1 rfl) [] rfl rfl 9 (hb hy d3_6) rfl rfl rfl (allS ⟨z8, m0⟩ all0) tri ?_
  intro v3 T3 h3 lo3 W3 K3 q3
  obtain ⟨r1_3, r2_3, P3_0, P3_1, P3_2, P3_3, rfl⟩ := q3.2.2
  show Gl _ _ _ _ _ _ _ _ []
  have c4 := (z5.keep K3)
  exact o_ret0 W3 hlk hret (hb hy d3_9) (by decide) (by decide) ⟨r1_3, r2_3, (Nat.le_trans W0.keep.1 P3_0), P3_1, P3_2, P3_3, rfl⟩
theorem rm56 (l : Launch) {Z a0} (hw : HW Z a0) (gCS : Int32) (a1 a2 : Addr) (z0 : ClassId) (x1 : Int32) (h0 : Heap) (O0 : Old Z Z.heap.size h0) (z1 : Fld Z h0 a1 s1 "value" "[B" (.ref a2)) (z2 : Arv Z h0 a2 z0 .byte 4 [(.int (((own_hi x1) >>> ((0 : Int32) &&& 31)).toInt8.toInt32)), (.int (((own_hi x1) >>> ((8 : Int32) &&& 31)).toInt8.toInt32)), (.int (((own_lo x1) >>> ((0 : Int32) &&& 31)).toInt8.toInt32)), (.int (((own_lo x1) >>> ((8 : Int32) &&& 31)).toInt8.toInt32))] iZ) (z3 : Exa Z h0 a1 s1) (SgCS : Sta Z Z.heap s1 s5 "Z" (.int gCS)) (NgCS : ¬ (gCS = (0 : Int32))) (z4 : Fld Z h0 a1 s1 "coder" "B" (.int 1)) :
    CtrN l Z mn0 jdk_42_method_54_code 1 (some .int) [] (⟨1, 0, 0, 14⟩ : Room) #[(.ref a1)] h0 [] (fun v h => v = some (.int 2)) := by
  refine CtrN.intro (L0 := #[vr a1]) (plainFor_of_name pn2) O0 (own_entry rfl) ?_
  intro p e s m below meth c T0 hy hml hret hlk hnm W0
  refine o_aloadN W0 1 (hb hy d8_0) rfl rfl rfl ?_
  refine o_getF W0 (w30 hw) Via.refl z1 4 (hb hy d8_1) rfl ?_
  intro T1 W1
  refine o_len W1 z2 5 (hb hy d8_4) rfl <| o_aloadN W1 6 (hb hy d8_5) rfl rfl rfl ?_
  refine o_virtualC W1 (w44 hw) (w45 hw) (o_nf W1 rfl (w47 hw)) (w47 hw) (w46 hw) (by decide) z3 (w48 hw) (w12 hw) (rm37 l hw gCS a1 h0 W1.old SgCS NgCS z4) 1 0 0 (by decide) (by rw [hml]; rfl) (lenOf pd3 rfl) [(.int 4)] rfl rfl 9 (hb hy d8_6) rfl rfl rfl all0 tri ?_
  intro v2 T2 h2 lo2 W2 K2 q2
  obtain rfl := q2.2.2
  show Gl _ _ _ _ _ _ _ _ [(.int 1), (.int 4)]
  refine o_ishr W2 (v := 2) 10 (hb hy d8_9) (by decide) rfl ?_
  exact o_retI W2 hlk hret (hb hy d8_10) (by decide) (by decide) rfl
theorem rm57 (l : Launch) {Z a0} (hw : HW Z a0)  (h0 : Heap) (O0 : Old Z Z.heap.size h0) :
    CtrN l Z mn20 jdk_41_method_11_code 3 (some .int) [] (⟨0, 0, 0, 0⟩ : Room) #[iZ, (.int 2), .null] h0 [] (fun v h => v = some iZ) := by
  refine CtrN.intro (L0 := #[vi 0, vi 2, .val .null]) (plainFor_of_name pn6) O0 (own_entry rfl) ?_
  intro p e s m below meth c T0 hy hml hret hlk hnm W0
  refine o_iloadN W0 1 (hb hy d18_0) rfl rfl <| o_ifN W0 4 (hb hy d18_1) (XT.i0_lt_f (by decide)) rfl <| o_iloadN W0 5 (hb hy d18_4) rfl rfl <| o_iloadN W0 6 (hb hy d18_5) rfl rfl <| o_icmpY W0 16 (hb hy d18_6) (XT.ii_lt_t (by decide)) (by decide) rfl <| o_iloadN W0 17 (hb hy d18_16) rfl rfl ?_
  exact o_retI W0 hlk hret (hb hy d18_17) (by decide) (by decide) rfl
theorem rm58 (l : Launch) {Z a0} (hw : HW Z a0) (a1 : Addr) (h0 : Heap) (O0 : Old Z Z.heap.size h0) :
    CtrN l Z mn20 jdk_41_method_11_code 3 (some .int) [] (⟨0, 0, 0, 0⟩ : Room) #[iZ, (.int 2), (.ref a1)] h0 [] (fun v h => v = some iZ) := by
  refine CtrN.intro (L0 := #[vi 0, vi 2, vr a1]) (plainFor_of_name pn6) O0 (own_entry rfl) ?_
  intro p e s m below meth c T0 hy hml hret hlk hnm W0
  refine o_iloadN W0 1 (hb hy d18_0) rfl rfl <| o_ifN W0 4 (hb hy d18_1) (XT.i0_lt_f (by decide)) rfl <| o_iloadN W0 5 (hb hy d18_4) rfl rfl <| o_iloadN W0 6 (hb hy d18_5) rfl rfl <| o_icmpY W0 16 (hb hy d18_6) (XT.ii_lt_t (by decide)) (by decide) rfl <| o_iloadN W0 17 (hb hy d18_16) rfl rfl ?_
  exact o_retI W0 hlk hret (hb hy d18_17) (by decide) (by decide) rfl
theorem rm59 (l : Launch) {Z a0} (hw : HW Z a0) (gF : Value) (h0 : Heap) (O0 : Old Z Z.heap.size h0) (SgF : Sta Z Z.heap s6 s7 s8 gF) (NgF : gF.isRef = true) :
    CtrN l Z mn21 jdk_42_method_155_code 2 none [] (⟨1, 0, 0, 14⟩ : Room) #[iZ, (.int 2)] h0 [] (fun v h => v = none) := by
  refine CtrN.intro (L0 := #[vi 0, vi 2]) (plainFor_of_name pn2) O0 (own_entry rfl) ?_
  intro p e s m below meth c T0 hy hml hret hlk hnm W0
  refine o_iloadN W0 1 (hb hy d17_0) rfl rfl <| o_iloadN W0 2 (hb hy d17_1) rfl rfl ?_
  rcases ref_cases NgF with rfl | ⟨aF1, rfl⟩
  · refine o_getS W0 (w81 hw) Via.refl (SgF.ext W0.ox) 5 (hb hy d17_2) rfl ?_
    intro T2 W2
    refine o_staticC W2 (w83 hw) (w84 hw) (w82 hw) (w85 hw) (by decide) (rm57 l hw  h0 W2.old ) 0 0 0 (by decide) (by rw [hml]; rfl) (lenOf pd13 rfl) [] rfl rfl 8 (hb hy d17_5) rfl rfl rfl all0 tri ?_
    intro v3 T3 h3 lo3 W3 K3 q3
    obtain rfl := q3.2.2
    show Gl _ _ _ _ _ _ _ _ [iZ]
    refine o_pop W3 9 (hb hy d17_8) rfl rfl ?_
    exact o_ret0 W3 hlk hret (hb hy d17_9) (by decide) (by decide) rfl
  · refine o_getS W0 (w81 hw) Via.refl (SgF.ext W0.ox) 5 (hb hy d17_2) rfl ?_
    intro T4 W4
    refine o_staticC W4 (w83 hw) (w84 hw) (w82 hw) (w85 hw) (by decide) (rm58 l hw aF1 h0 W4.old ) 0 0 0 (by decide) (by rw [hml]; rfl) (lenOf pd13 rfl) [] rfl rfl 8 (hb hy d17_5) rfl rfl rfl all0 tri ?_
    intro v5 T5 h5 lo5 W5 K5 q5
    obtain rfl := q5.2.2
    show Gl _ _ _ _ _ _ _ _ [iZ]
    refine o_pop W5 9 (hb hy d17_8) rfl rfl ?_
    exact o_ret0 W5 hlk hret (hb hy d17_9) (by decide) (by decide) rfl
theorem rm60 (l : Launch) {Z a0} (hw : HW Z a0) (a1 : Addr) (z0 : ClassId) (x1 : Int32) (h0 : Heap) (O0 : Old Z Z.heap.size h0) (z1 : Sta Z Z.heap s0 s2 "Z" (.int 1)) (z2 : Arv Z h0 a1 z0 .byte 4 [(.int (((own_hi x1) >>> ((0 : Int32) &&& 31)).toInt8.toInt32)), (.int (((own_hi x1) >>> ((8 : Int32) &&& 31)).toInt8.toInt32)), (.int (((own_lo x1) >>> ((0 : Int32) &&& 31)).toInt8.toInt32)), (.int (((own_lo x1) >>> ((8 : Int32) &&& 31)).toInt8.toInt32))] iZ) (z3 : Sta Z Z.heap s0 s3 "I" iZ) (z4 : Sta Z Z.heap s0 s4 "I" (.int 8)) :
    CtrN l Z mn26 jdk_52_method_5_code 2 (some .char) [] (⟨0, 0, 0, 0⟩ : Room) #[(.ref a1), (.int 1)] h0 [] (fun v h => v = some (.int (own_lo x1))) := by
  refine CtrN.intro (L0 := #[vr a1, vi 1]) (plainFor_of_name pn5) O0 (own_entry rfl) ?_
  intro p e s m below meth c T0 hy hml hret hlk hnm W0
  refine o_getS W0 (w107 hw) Via.refl (z1.ext W0.ox) 3 (hb hy d25_0) rfl ?_
  intro T1 W1
  refine o_ifY W1 28 (hb hy d25_3) (XT.i0_ne_t (by decide)) (by decide) rfl <| o_iloadN W1 29 (hb hy d25_28) rfl rfl <| o_iconst W1 (v := 1) 30 (hb hy d25_29) rfl rfl <| o_ishl W1 (v := 2) 31 (hb hy d25_30) (by decide) rfl <| o_istoreN W1 (L' := #[vr a1, vi 2]) 32 (hb hy d25_31) rfl rfl <| o_aloadN W1 33 (hb hy d25_32) rfl rfl rfl ?_
  refine o_iloadN W1 34 (hb hy d25_33) rfl rfl <| o_iinc W1 (v := 3) (L' := #[vr a1, vi 3]) 37 (hb hy d25_34) rfl (by decide) rfl rfl <| o_baload W1 z2 (x := (((own_lo x1) >>> ((0 : Int32) &&& 31)).toInt8.toInt32)) (i := 2) (by decide) (by decide) (by decide) rfl 38 (hb hy d25_37) rfl <| o_sipush W1 (v := 255) 41 (hb hy d25_38) (by decide) rfl <| o_iand W1 (v := ((((own_lo x1) >>> ((0 : Int32) &&& 31)).toInt8.toInt32) &&& 255)) 42 (hb hy d25_41) rfl rfl ?_
  refine o_getS W1 (w108 hw) Via.refl (z3.ext W1.ox) 45 (hb hy d25_42) rfl ?_
  intro T2 W2
  refine o_ishl W2 (v := (((((own_lo x1) >>> ((0 : Int32) &&& 31)).toInt8.toInt32) &&& 255) <<< ((0 : Int32) &&& 31))) 46 (hb hy d25_45) rfl rfl <| o_aloadN W2 47 (hb hy d25_46) rfl rfl rfl <| o_iloadN W2 48 (hb hy d25_47) rfl rfl <| o_baload W2 z2 (x := (((own_lo x1) >>> ((8 : Int32) &&& 31)).toInt8.toInt32)) (i := 3) (by decide) (by decide) (by decide) rfl 49 (hb hy d25_48) rfl <| o_sipush W2 (v := 255) 52 (hb hy d25_49) (by decide) rfl <| o_iand W2 (v := ((((own_lo x1) >>> ((8 : Int32) &&& 31)).toInt8.toInt32) &&& 255)) 53 (hb hy d25_52) rfl rfl ?_
  refine o_getS W2 (w109 hw) Via.refl (z4.ext W2.ox) 56 (hb hy d25_53) rfl ?_
  intro T3 W3
  refine o_ishl W3 (v := (((((own_lo x1) >>> ((8 : Int32) &&& 31)).toInt8.toInt32) &&& 255) <<< ((8 : Int32) &&& 31))) 57 (hb hy d25_56) rfl rfl <| o_ior W3 (v := ((((((own_lo x1) >>> ((0 : Int32) &&& 31)).toInt8.toInt32) &&& 255) <<< ((0 : Int32) &&& 31)) ||| (((((own_lo x1) >>> ((8 : Int32) &&& 31)).toInt8.toInt32) &&& 255) <<< ((8 : Int32) &&& 31)))) 58 (hb hy d25_57) rfl rfl <| o_i2c W3 (v := (own_lo x1)) 59 (hb hy d25_58) (own_join (own_loc _)) rfl ?_
  exact o_retN W3 hlk (t := .char) hret (by simp) (z' := (own_lo x1)) (own_i2cc (own_loc _)) (hb hy d25_59) (by decide) (by decide) rfl
theorem rm61 (l : Launch) {Z a0} (hw : HW Z a0) (x1 : Int32) (h0 : Heap) (O0 : Old Z Z.heap.size h0) (hu1 : own_cp x1) (hc2 : ¬ (x1 < (65536 : Int32))) :
    CtrN l Z mn29 jdk_89_method_19_code 2 (some .int) [] (⟨0, 0, 0, 0⟩ : Room) #[(.int (own_hi x1)), (.int (own_lo x1))] h0 [] (fun v h => v = some (.int x1)) := by
  refine CtrN.intro (L0 := #[vi (own_hi x1), vi (own_lo x1)]) (plainFor_of_name pn1) O0 (own_entry rfl) ?_
  intro p e s m below meth c T0 hy hml hret hlk hnm W0
  refine o_iloadN W0 1 (hb hy d31_0) rfl rfl <| o_bipush W0 (v := 10) 3 (hb hy d31_1) (by decide) rfl <| o_ishl W0 (v := ((own_hi x1) <<< ((10 : Int32) &&& 31))) 4 (hb hy d31_3) rfl rfl <| o_iloadN W0 5 (hb hy d31_4) rfl rfl <| o_iadd W0 (v := (((own_hi x1) <<< ((10 : Int32) &&& 31)) + (own_lo x1))) 6 (hb hy d31_5) rfl rfl <| o_ldcI W0 (w136 hw) 8 (hb hy d31_6) rfl ?_
  refine o_iadd W0 (v := x1) 9 (hb hy d31_8) (own_tcp (own_spI hu1 hc2)) rfl ?_
  exact o_retI W0 hlk hret (hb hy d31_9) (by decide) (by decide) rfl
theorem rm62 (l : Launch) {Z a0} (hw : HW Z a0) (a1 : Addr) (z0 : ClassId) (x1 : Int32) (h0 : Heap) (O0 : Old Z Z.heap.size h0) (z1 : Sta Z Z.heap s0 s2 "Z" (.int 1)) (z2 : Arv Z h0 a1 z0 .byte 4 [(.int (((own_hi x1) >>> ((0 : Int32) &&& 31)).toInt8.toInt32)), (.int (((own_hi x1) >>> ((8 : Int32) &&& 31)).toInt8.toInt32)), (.int (((own_lo x1) >>> ((0 : Int32) &&& 31)).toInt8.toInt32)), (.int (((own_lo x1) >>> ((8 : Int32) &&& 31)).toInt8.toInt32))] iZ) (z3 : Sta Z Z.heap s0 s3 "I" iZ) (z4 : Sta Z Z.heap s0 s4 "I" (.int 8)) (hu4 : own_cp x1) (hc5 : ¬ (x1 < (65536 : Int32))) :
    CtrN l Z mn27 jdk_52_method_7_code 6 (some .int) [] (⟨1, 0, 0, 13⟩ : Room) #[(.ref a1), iZ, (.int 2), iZ] h0 [] (fun v h => v = some (.int x1)) := by
  refine CtrN.intro (L0 := #[vr a1, vi 0, vi 2, vi 0, un, un]) (plainFor_of_name pn5) O0 (own_entry rfl) ?_
  intro p e s m below meth c T0 hy hml hret hlk hnm W0
  refine o_getS W0 (w107 hw) Via.refl (z1.ext W0.ox) 3 (hb hy d28_0) rfl ?_
  intro T1 W1
  refine o_ifY W1 19 (hb hy d28_3) (XT.i0_ne_t (by decide)) (by decide) rfl <| o_iloadN W1 20 (hb hy d28_19) rfl rfl <| o_ifY W1 28 (hb hy d28_20) (XT.i0_eq_t (by decide)) (by decide) rfl <| o_aloadN W1 29 (hb hy d28_28) rfl rfl rfl <| o_iloadN W1 30 (hb hy d28_29) rfl rfl ?_
  refine o_staticC W1 (w110 hw) (w111 hw) (w60 hw) (w112 hw) (by decide) (rm51 l hw a1 z0 x1 h0 W1.old z1 z2 z3 z4) 0 0 0 (by decide) (by rw [hml]; rfl) (lenOf pd17 rfl) [] rfl rfl 33 (hb hy d28_30) rfl rfl rfl all0 tri ?_
  intro v2 T2 h2 lo2 W2 K2 q2
  obtain rfl := q2.2.2
  show Gl _ _ _ _ _ _ _ _ [(.int (own_hi x1))]
  refine o_istore W2 (L' := #[vr a1, vi 0, vi 2, vi 0, vi (own_hi x1), un]) 35 (hb hy d28_33) rfl rfl <| o_iload W2 37 (hb hy d28_35) rfl rfl ?_
  refine o_staticC W2 (w124 hw) (w125 hw) (w115 hw) (w126 hw) (by decide) (rm4 l hw (own_hi x1) h2 W2.old ) 0 0 0 (by decide) (by rw [hml]; rfl) (lenOf pd18 rfl) [] rfl rfl 40 (hb hy d28_37) rfl rfl rfl all0 tri ?_
  intro v3 T3 h3 lo3 W3 K3 q3
  obtain rfl := q3.2.2
  show Gl _ _ _ _ _ _ _ _ [(.int (own_hs (own_hi x1)))]
  refine o_ifN W3 43 (hb hy d28_40) (XT.i0_eq_f (own_hsY (own_spI hu4 hc5))) rfl <| o_iinc W3 (v := 1) (L' := #[vr a1, vi 1, vi 2, vi 0, vi (own_hi x1), un]) 46 (hb hy d28_43) rfl (by decide) rfl rfl <| o_iloadN W3 47 (hb hy d28_46) rfl rfl <| o_iloadN W3 48 (hb hy d28_47) rfl rfl <| o_icmpN W3 51 (hb hy d28_48) (XT.ii_ge_f (by decide)) rfl <| o_iloadN W3 52 (hb hy d28_51) rfl rfl ?_
  refine o_ifY W3 60 (hb hy d28_52) (XT.i0_eq_t (by decide)) (by decide) rfl <| o_aloadN W3 61 (hb hy d28_60) rfl rfl rfl <| o_iloadN W3 62 (hb hy d28_61) rfl rfl ?_
  have c6 := ((z2.keep K2 nin0).keep K3 nin0)
  refine o_staticC W3 (w110 hw) (w111 hw) (w60 hw) (w112 hw) (by decide) (rm60 l hw a1 z0 x1 h3 W3.old z1 c6 z3 z4) 0 0 0 (by decide) (by rw [hml]; rfl) (lenOf pd17 rfl) [] rfl rfl 65 (hb hy d28_62) rfl rfl rfl all0 tri ?_
  intro v7 T7 h7 lo7 W7 K7 q7
  obtain rfl := q7.2.2
  show Gl _ _ _ _ _ _ _ _ [(.int (own_lo x1))]
  refine o_istore W7 (L' := #[vr a1, vi 1, vi 2, vi 0, vi (own_hi x1), vi (own_lo x1)]) 67 (hb hy d28_65) rfl rfl <| o_iload W7 69 (hb hy d28_67) rfl rfl ?_
  refine o_staticC W7 (w129 hw) (w130 hw) (w115 hw) (w131 hw) (by decide) (rm5 l hw (own_lo x1) h7 W7.old ) 0 0 0 (by decide) (by rw [hml]; rfl) (lenOf pd18 rfl) [] rfl rfl 72 (hb hy d28_69) rfl rfl rfl all0 tri ?_
  intro v8 T8 h8 lo8 W8 K8 q8
  obtain rfl := q8.2.2
  show Gl _ _ _ _ _ _ _ _ [(.int (own_ls (own_lo x1)))]
  refine o_ifN W8 75 (hb hy d28_72) (XT.i0_eq_f (own_lsY (own_spI hu4 hc5))) rfl <| o_iload W8 77 (hb hy d28_75) rfl rfl <| o_iload W8 79 (hb hy d28_77) rfl rfl ?_
  refine o_staticC W8 (w133 hw) (w134 hw) (w115 hw) (w135 hw) (by decide) (rm61 l hw x1 h8 W8.old hu4 hc5) 0 0 0 (by decide) (by rw [hml]; rfl) (lenOf pd22 rfl) [] rfl rfl 82 (hb hy d28_79) rfl rfl rfl all0 tri ?_
  intro v9 T9 h9 lo9 W9 K9 q9
  obtain rfl := q9.2.2
  show Gl _ _ _ _ _ _ _ _ [(.int x1)]
  exact o_retI W9 hlk hret (hb hy d28_82) (by decide) (by decide) rfl
theorem rm63 (l : Launch) {Z a0} (hw : HW Z a0) (a1 : Addr) (z0 : ClassId) (x1 : Int32) (h0 : Heap) (O0 : Old Z Z.heap.size h0) (z1 : Sta Z Z.heap s0 s2 "Z" (.int 1)) (z2 : Arv Z h0 a1 z0 .byte 4 [(.int (((own_hi x1) >>> ((0 : Int32) &&& 31)).toInt8.toInt32)), (.int (((own_hi x1) >>> ((8 : Int32) &&& 31)).toInt8.toInt32)), (.int (((own_lo x1) >>> ((0 : Int32) &&& 31)).toInt8.toInt32)), (.int (((own_lo x1) >>> ((8 : Int32) &&& 31)).toInt8.toInt32))] iZ) (z3 : Sta Z Z.heap s0 s3 "I" iZ) (z4 : Sta Z Z.heap s0 s4 "I" (.int 8)) (hu1 : own_cp x1) (hc2 : ¬ (x1 < (65536 : Int32))) :
    CtrN l Z mn28 jdk_52_method_8_code 3 (some .int) [] (⟨2, 0, 0, 30⟩ : Room) #[(.ref a1), iZ, (.int 2)] h0 [] (fun v h => v = some (.int x1)) := by
  refine CtrN.intro (L0 := #[vr a1, vi 0, vi 2]) (plainFor_of_name pn5) O0 (own_entry rfl) ?_
  intro p e s m below meth c T0 hy hml hret hlk hnm W0
  refine o_aloadN W0 1 (hb hy d27_0) rfl rfl rfl <| o_iloadN W0 2 (hb hy d27_1) rfl rfl <| o_iloadN W0 3 (hb hy d27_2) rfl rfl <| o_iconst W0 (v := 0) 4 (hb hy d27_3) rfl rfl ?_
  refine o_staticC W0 (w121 hw) (w122 hw) (w60 hw) (w123 hw) (by decide) (rm62 l hw a1 z0 x1 h0 W0.old z1 z2 z3 z4 hu1 hc2) 0 0 0 (by decide) (by rw [hml]; rfl) (lenOf pd19 rfl) [] rfl rfl 7 (hb hy d27_4) rfl rfl rfl all0 tri ?_
  intro v3 T3 h3 lo3 W3 K3 q3
  obtain rfl := q3.2.2
  show Gl _ _ _ _ _ _ _ _ [(.int x1)]
  exact o_retI W3 hlk hret (hb hy d27_7) (by decide) (by decide) rfl
theorem rm64 (l : Launch) {Z a0} (hw : HW Z a0) (gCS : Int32) (gF : Value) (a1 a2 : Addr) (z0 : ClassId) (x1 : Int32) (h0 : Heap) (O0 : Old Z Z.heap.size h0) (z1 : Exa Z h0 a1 s1) (SgCS : Sta Z Z.heap s1 s5 "Z" (.int gCS)) (NgCS : ¬ (gCS = (0 : Int32))) (z2 : Fld Z h0 a1 s1 "coder" "B" (.int 1)) (z3 : Fld Z h0 a1 s1 "value" "[B" (.ref a2)) (z4 : Arv Z h0 a2 z0 .byte 4 [(.int (((own_hi x1) >>> ((0 : Int32) &&& 31)).toInt8.toInt32)), (.int (((own_hi x1) >>> ((8 : Int32) &&& 31)).toInt8.toInt32)), (.int (((own_lo x1) >>> ((0 : Int32) &&& 31)).toInt8.toInt32)), (.int (((own_lo x1) >>> ((8 : Int32) &&& 31)).toInt8.toInt32))] iZ) (SgF : Sta Z Z.heap s6 s7 s8 gF) (NgF : gF.isRef = true) (z5 : Sta Z Z.heap s0 s2 "Z" (.int 1)) (z6 : Sta Z Z.heap s0 s3 "I" iZ) (z7 : Sta Z Z.heap s0 s4 "I" (.int 8)) (hu9 : own_cp x1) (hc10 : ¬ (x1 < (65536 : Int32))) :
    CtrN l Z mn1 jdk_42_method_57_code 3 (some .int) [] (⟨6, 0, 0, 90⟩ : Room) #[(.ref a1), iZ] h0 [] (fun v h => v = some (.int x1)) := by
  refine CtrN.intro (L0 := #[vr a1, vi 0, un]) (plainFor_of_name pn2) O0 (own_entry rfl) ?_
  intro p e s m below meth c T0 hy hml hret hlk hnm W0
  refine o_aloadN W0 1 (hb hy d15_0) rfl rfl rfl ?_
  refine o_virtualC W0 (w73 hw) (w74 hw) (o_nf W0 rfl (w76 hw)) (w76 hw) (w75 hw) (by decide) z1 (w77 hw) (w12 hw) (rm39 l hw gCS a1 h0 W0.old SgCS NgCS z2) 0 0 0 (by decide) (by rw [hml]; rfl) (lenOf pd12 rfl) [] rfl rfl 4 (hb hy d15_1) rfl rfl rfl all0 tri ?_
  intro v1 T1 h1 lo1 W1 K1 q1
  obtain rfl := q1.2.2
  show Gl _ _ _ _ _ _ _ _ [iZ]
  refine o_ifY W1 27 (hb hy d15_4) (XT.i0_eq_t (by decide)) (by decide) rfl <| o_aloadN W1 28 (hb hy d15_27) rfl rfl rfl ?_
  have c2 := (z3.keep K1 nin0)
  refine o_getF W1 (w30 hw) Via.refl c2 31 (hb hy d15_28) rfl ?_
  intro T3 W3
  have c4 := (z4.keep K1 nin0)
  refine o_len W3 c4 32 (hb hy d15_31) rfl <| o_iconst W3 (v := 1) 33 (hb hy d15_32) rfl rfl <| o_ishr W3 (v := 2) 34 (hb hy d15_33) (by decide) rfl <| o_istoreN W3 (L' := #[vr a1, vi 0, vi 2]) 35 (hb hy d15_34) rfl rfl <| o_iloadN W3 36 (hb hy d15_35) rfl rfl <| o_iloadN W3 37 (hb hy d15_36) rfl rfl ?_
  refine o_staticC W3 (w78 hw) (w79 hw) (w12 hw) (w80 hw) (by decide) (rm59 l hw gF h1 W3.old SgF NgF) 0 0 0 (by decide) (by rw [hml]; rfl) (lenOf pd14 rfl) [] rfl rfl 40 (hb hy d15_37) rfl rfl rfl all0 tri ?_
  intro v5 T5 h5 lo5 W5 K5 q5
  obtain rfl := q5.2.2
  show Gl _ _ _ _ _ _ _ _ []
  refine o_aloadN W5 41 (hb hy d15_40) rfl rfl rfl ?_
  have c6 := (c2.keep K5 nin0)
  refine o_getF W5 (w30 hw) Via.refl c6 44 (hb hy d15_41) rfl ?_
  intro T7 W7
  refine o_iloadN W7 45 (hb hy d15_44) rfl rfl <| o_iloadN W7 46 (hb hy d15_45) rfl rfl ?_
  have c8 := (c4.keep K5 nin0)
  refine o_staticC W7 (w118 hw) (w119 hw) (w60 hw) (w120 hw) (by decide) (rm63 l hw a2 z0 x1 h5 W7.old z5 c8 z6 z7 hu9 hc10) 0 0 0 (by decide) (by rw [hml]; rfl) (lenOf pd20 rfl) [] rfl rfl 49 (hb hy d15_46) rfl rfl rfl all0 tri ?_
  intro v11 T11 h11 lo11 W11 K11 q11
  obtain rfl := q11.2.2
  show Gl _ _ _ _ _ _ _ _ [(.int x1)]
  exact o_retI W11 hlk hret (hb hy d15_49) (by decide) (by decide) rfl
theorem rm65 (l : Launch) {Z a0} (hw : HW Z a0) (gCS : Int32) (gF : Value) (x1 x2 : Int32) (h0 : Heap) (O0 : Old Z Z.heap.size h0) (hu4 : own_cp x1) (SgCS : Sta Z Z.heap s1 s5 "Z" (.int gCS)) (NgCS : ¬ (gCS = (0 : Int32))) (SgF : Sta Z Z.heap s6 s7 s8 gF) (NgF : gF.isRef = true) (z0 : Sta Z Z.heap s0 s2 "Z" (.int 1)) (z1 : Sta Z Z.heap s0 s3 "I" iZ) (z2 : Sta Z Z.heap s0 s4 "I" (.int 8)) :
    CtrN l Z mn11 method_7_code 5 (some (.object s1)) [] (⟨6, 4, 12, 88⟩ : Room) #[(.int 1), (.int x1), (.int x2)] h0 [] (fun v h => ∃ r1 : Addr, h0.size ≤ r1 ∧ Exa Z h r1 s1 ∧ Sv l Z h r1 (own_cn x1) [((0 : Int32), x1)] ∧ v = some (.ref r1)) := by
  refine CtrN.intro (L0 := #[vi 1, vi x1, vi x2, un, un]) (plainFor_of_name pn0) O0 (own_entry rfl) ?_
  intro p e s m below meth c T0 hy hml hret hlk hnm W0
  refine o_iloadN W0 1 (hb hy d2_0) rfl rfl <| o_ifY W0 15 (hb hy d2_1) (XT.i0_ne_t (by decide)) (by decide) rfl <| o_iloadN W0 16 (hb hy d2_15) rfl rfl <| o_ldcI W0 (w57 hw) 18 (hb hy d2_16) rfl ?_
  by_cases hq1 : x1 < (65536 : Int32)
  · refine o_icmpY W0 25 (hb hy d2_18) (XT.ii_lt_t hq1) (by decide) rfl <| o_iconst W0 (v := 0) 26 (hb hy d2_25) rfl rfl <| o_istoreN W0 (L' := #[vi 1, vi x1, vi x2, vi 0, un]) 27 (hb hy d2_26) rfl rfl <| o_iloadN W0 28 (hb hy d2_27) rfl rfl <| o_iconst W0 (v := 1) 29 (hb hy d2_28) rfl rfl <| o_icmpN W0 32 (hb hy d2_29) (XT.ii_ne_f (by decide)) rfl ?_
    refine o_iloadN W0 33 (hb hy d2_32) rfl rfl <| o_ifY W0 61 (hb hy d2_33) (XT.i0_eq_t (by decide)) (by decide) rfl ?_
    refine o_new W0 (w10 hw) (w11 hw) (w12 hw) tri 64 (hb hy d2_61) rfl (cells' := 1) (slots' := 4) rfl rfl (by decide) (by decide) ?_
    intro b2 T2 h2 W2 E2 ge2 gz2 gb2 A2 D2
    have Fb2_value : Fld Z h2 b2 s1 "value" "[B" .null := D2 (Or.inr (w26 hw)) (ty := (.array .byte)) (by decide)
    have Fb2_coder : Fld Z h2 b2 s1 "coder" "B" iZ := D2 (Or.inr (w27 hw)) (ty := .byte) (by decide)
    refine o_dup W2 65 (hb hy d2_64) rfl rfl <| o_iconst W2 (v := 1) 66 (hb hy d2_65) rfl rfl ?_
    refine o_newP W2 (aty := .char) (w13 hw) tri (by decide) (cap := 1) (by decide) (by decide) 68 (hb hy d2_66) rfl (cells' := 2) (slots' := 5) rfl rfl (by decide) (by decide) (vs := [iZ]) (dv := iZ) rfl rfl ?_
    intro b3 T3 h3 k3 W3 E3 ge3 gz3 gb3 V3
    refine o_dup W3 69 (hb hy d2_68) rfl rfl <| o_iconst W3 (v := 0) 70 (hb hy d2_69) rfl rfl <| o_iloadN W3 71 (hb hy d2_70) rfl rfl <| o_i2c W3 (v := x1) 72 (hb hy d2_71) (own_i2cc (own_cpc hu4 hq1)) rfl ?_
    refine o_stC W3 V3 (i := 0) (x' := x1) (by decide) (by decide) (by decide) (Nat.lt_of_sub_eq_succ rfl) (own_i2cc (own_cpc hu4 hq1)) (vs' := [(.int x1)]) rfl gz3 (Or.inr gb3) tri 73 (hb hy d2_72) rfl ?_
    intro T5 h5 lo5 W5 R5 V5
    rcases (Classical.em ((255 : Int32) < x1)).symm with hq6 | hq6
    · have c7 := ((Fb2_coder.ext E3).other R5 (Or.inl (own_ne A2.lt ge3)))
      have c8 := ((Fb2_value.ext E3).other R5 (Or.inl (own_ne A2.lt ge3)))
      have c9 := ((A2.ext E3).wr R5)
      refine o_specialC W5 rfl (w14 hw) (w15 hw) (w16 hw) (by decide) (w12 hw) (rm20 l hw gCS b2 b3 k3 x1 h5 W5.old V5 SgCS NgCS hu4 hq1 hq6 c9 c7 c8 gz2) 1 3 6 (by decide) (by rw [hml]; rfl) (lenOf pd2 rfl) [(.ref b2)] rfl rfl 76 (hb hy d2_73) rfl rfl rfl (allS ⟨gz2, (Or.inr gb2)⟩ all0) tri ?_
      intro v10 T10 h10 lo10 W10 K10 q10
      obtain ⟨r1_10, r2_10, P10_0, P10_1, P10_2, P10_3, rfl⟩ := q10.2.2
      show Gl _ _ _ _ _ _ _ _ [(.ref b2)]
      have sv11 : Sv l Z h10 b2 (own_cn x1) [((0 : Int32), x1)] := by
        intro h' O' K'
        have c12 := (P10_2.keep K' nin0)
        have c13 := (P10_3.keep K' nin0)
        have c14 := (P10_1.keep K' nin0)
        have c15 := ((c9.keep K10).keep K')
        rw [own_cn1 hq1]
        exact ⟨(rm21 l hw gCS b2 r1_10 r2_10 x1 h' O' c12 c13 c15 SgCS NgCS c14), (al1 (rm26 l hw gCS gF b2 r1_10 r2_10 x1 h' O' c15 SgCS NgCS c14 c12 c13 SgF NgF hu4 hq1 hq6) al0)⟩
      have c16 := (c9.keep K10)
      exact o_retA W10 hlk (v := (.ref b2)) hret rfl rfl (hb hy d2_76) (by decide) (by decide) ⟨b2, gb2, c16, sv11, rfl⟩
    · have c17 := ((Fb2_coder.ext E3).other R5 (Or.inl (own_ne A2.lt ge3)))
      have c18 := ((Fb2_value.ext E3).other R5 (Or.inl (own_ne A2.lt ge3)))
      have c19 := ((A2.ext E3).wr R5)
      refine o_specialC W5 rfl (w14 hw) (w15 hw) (w16 hw) (by decide) (w12 hw) (rm36 l hw gCS b2 b3 k3 x1 h5 W5.old V5 SgCS NgCS hu4 hq1 hq6 z0 z1 z2 c19 c17 c18 gz2) 1 4 8 (by decide) (by rw [hml]; rfl) (lenOf pd2 rfl) [(.ref b2)] rfl rfl 76 (hb hy d2_73) rfl rfl rfl (allS ⟨gz2, (Or.inr gb2)⟩ all0) tri ?_
      intro v20 T20 h20 lo20 W20 K20 q20
      obtain ⟨r1_20, r2_20, P20_0, P20_1, P20_2, P20_3, rfl⟩ := q20.2.2
      show Gl _ _ _ _ _ _ _ _ [(.ref b2)]
      have sv21 : Sv l Z h20 b2 (own_cn x1) [((0 : Int32), x1)] := by
        intro h' O' K'
        have c22 := (P20_2.keep K' nin0)
        have c23 := (P20_3.keep K' nin0)
        have c24 := (P20_1.keep K' nin0)
        have c25 := ((c19.keep K20).keep K')
        rw [own_cn1 hq1]
        exact ⟨(rm38 l hw gCS b2 r1_20 r2_20 x1 h' O' c22 c23 c25 SgCS NgCS c24), (al1 (rm44 l hw gCS gF b2 r1_20 r2_20 x1 h' O' c25 SgCS NgCS c24 c22 c23 SgF NgF z0 z1 z2 hu4 hq1 hq1 hq1) al0)⟩
      have c26 := (c19.keep K20)
      exact o_retA W20 hlk (v := (.ref b2)) hret rfl rfl (hb hy d2_76) (by decide) (by decide) ⟨b2, gb2, c26, sv21, rfl⟩
  · refine o_icmpN W0 21 (hb hy d2_18) (XT.ii_lt_f hq1) rfl <| o_iconst W0 (v := 1) 22 (hb hy d2_21) rfl rfl <| o_goto W0 26 (hb hy d2_22) (by decide) rfl <| o_istoreN W0 (L' := #[vi 1, vi x1, vi x2, vi 1, un]) 27 (hb hy d2_26) rfl rfl <| o_iloadN W0 28 (hb hy d2_27) rfl rfl <| o_iconst W0 (v := 1) 29 (hb hy d2_28) rfl rfl ?_
    refine o_icmpN W0 32 (hb hy d2_29) (XT.ii_ne_f (by decide)) rfl <| o_iloadN W0 33 (hb hy d2_32) rfl rfl <| o_ifN W0 36 (hb hy d2_33) (XT.i0_eq_f (by decide)) rfl ?_
    refine o_new W0 (w10 hw) (w11 hw) (w12 hw) tri 39 (hb hy d2_36) rfl (cells' := 1) (slots' := 4) rfl rfl (by decide) (by decide) ?_
    intro b27 T27 h27 W27 E27 ge27 gz27 gb27 A27 D27
    have Fb27_value : Fld Z h27 b27 s1 "value" "[B" .null := D27 (Or.inr (w26 hw)) (ty := (.array .byte)) (by decide)
    have Fb27_coder : Fld Z h27 b27 s1 "coder" "B" iZ := D27 (Or.inr (w27 hw)) (ty := .byte) (by decide)
    refine o_dup W27 40 (hb hy d2_39) rfl rfl <| o_iconst W27 (v := 2) 41 (hb hy d2_40) rfl rfl ?_
    refine o_newP W27 (aty := .char) (w13 hw) tri (by decide) (cap := 2) (by decide) (by decide) 43 (hb hy d2_41) rfl (cells' := 2) (slots' := 6) rfl rfl (by decide) (by decide) (vs := [iZ, iZ]) (dv := iZ) rfl rfl ?_
    intro b28 T28 h28 k28 W28 E28 ge28 gz28 gb28 V28
    refine o_dup W28 44 (hb hy d2_43) rfl rfl <| o_iconst W28 (v := 0) 45 (hb hy d2_44) rfl rfl <| o_iloadN W28 46 (hb hy d2_45) rfl rfl ?_
    refine o_staticC W28 (w87 hw) (w88 hw) (w2 hw) (w89 hw) (by decide) (rm1 l hw x1 h28 W28.old ) 5 2 6 (by decide) (by rw [hml]; rfl) (lenOf pd21 rfl) [iZ, (.ref b28), (.ref b28), (.ref b27), (.ref b27)] rfl rfl 49 (hb hy d2_46) rfl rfl rfl all0 tri ?_
    intro v29 T29 h29 lo29 W29 K29 q29
    obtain rfl := q29.2.2
    show Gl _ _ _ _ _ _ _ _ [(.int (own_hi x1)), iZ, (.ref b28), (.ref b28), (.ref b27), (.ref b27)]
    have c30 := (V28.keep K29 nin0)
    refine o_stC W29 c30 (i := 0) (x' := (own_hi x1)) (by decide) (by decide) (by decide) (Nat.lt_of_sub_eq_succ rfl) (own_i2cc (own_hic _)) (vs' := [(.int (own_hi x1)), iZ]) rfl gz28 (Or.inr gb28) tri 50 (hb hy d2_49) rfl ?_
    intro T31 h31 lo31 W31 R31 V31
    refine o_dup W31 51 (hb hy d2_50) rfl rfl <| o_iconst W31 (v := 1) 52 (hb hy d2_51) rfl rfl <| o_iloadN W31 53 (hb hy d2_52) rfl rfl ?_
    refine o_staticC W31 (w90 hw) (w91 hw) (w2 hw) (w92 hw) (by decide) (rm2 l hw x1 h31 W31.old ) 5 2 6 (by decide) (by rw [hml]; rfl) (lenOf pd21 rfl) [(.int 1), (.ref b28), (.ref b28), (.ref b27), (.ref b27)] rfl rfl 56 (hb hy d2_53) rfl rfl rfl all0 tri ?_
    intro v32 T32 h32 lo32 W32 K32 q32
    obtain rfl := q32.2.2
    show Gl _ _ _ _ _ _ _ _ [(.int (own_lo x1)), (.int 1), (.ref b28), (.ref b28), (.ref b27), (.ref b27)]
    have c33 := (V31.keep K32 nin0)
    refine o_stC W32 c33 (i := 1) (x' := (own_lo x1)) (by decide) (by decide) (by decide) (Nat.lt_of_sub_eq_succ rfl) (own_i2cc (own_loc _)) (vs' := [(.int (own_hi x1)), (.int (own_lo x1))]) rfl gz28 (Or.inr gb28) tri 57 (hb hy d2_56) rfl ?_
    intro T34 h34 lo34 W34 R34 V34
    have c35 := (((((Fb27_coder.ext E28).keep K29 nin0).other R31 (Or.inl (own_ne A27.lt ge28))).keep K32 nin0).other R34 (Or.inl (own_ne A27.lt ge28)))
    have c36 := (((((Fb27_value.ext E28).keep K29 nin0).other R31 (Or.inl (own_ne A27.lt ge28))).keep K32 nin0).other R34 (Or.inl (own_ne A27.lt ge28)))
    have c37 := (((((A27.ext E28).keep K29).wr R31).keep K32).wr R34)
    refine o_specialC W34 rfl (w14 hw) (w15 hw) (w16 hw) (by decide) (w12 hw) (rm55 l hw gCS b27 b28 k28 x1 h34 W34.old V34 SgCS NgCS hu4 hq1 z0 z1 z2 c37 c35 c36 gz27) 1 4 12 (by decide) (by rw [hml]; rfl) (lenOf pd2 rfl) [(.ref b27)] rfl rfl 60 (hb hy d2_57) rfl rfl rfl (allS ⟨gz27, (Or.inr gb27)⟩ all0) tri ?_
    intro v38 T38 h38 lo38 W38 K38 q38
    obtain ⟨r1_38, r2_38, P38_0, P38_1, P38_2, P38_3, rfl⟩ := q38.2.2
    show Gl _ _ _ _ _ _ _ _ [(.ref b27)]
    have sv39 : Sv l Z h38 b27 (own_cn x1) [((0 : Int32), x1)] := by
      intro h' O' K'
      have c40 := (P38_2.keep K' nin0)
      have c41 := (P38_3.keep K' nin0)
      have c42 := (P38_1.keep K' nin0)
      have c43 := ((c37.keep K38).keep K')
      rw [own_cn2 hq1]
      exact ⟨(rm56 l hw gCS b27 r1_38 r2_38 x1 h' O' c40 c41 c43 SgCS NgCS c42), (al1 (rm64 l hw gCS gF b27 r1_38 r2_38 x1 h' O' c43 SgCS NgCS c42 c40 c41 SgF NgF z0 z1 z2 hu4 hq1) al0)⟩
    have c44 := (c37.keep K38)
    exact o_retA W38 hlk (v := (.ref b27)) hret rfl rfl (hb hy d2_60) (by decide) (by decide) ⟨b27, gb27, c44, sv39, rfl⟩
theorem rm66 (l : Launch) {Z a0} (hw : HW Z a0)  (h0 : Heap) (O0 : Old Z Z.heap.size h0) :
    CtrN l Z mn12 method_3_code 2 (some .int) [] (⟨0, 0, 0, 0⟩ : Room) #[iZ, (.int 1)] h0 [] (fun v h => v = some (.int (-1 : Int32))) := by
  refine CtrN.intro (L0 := #[vi 0, vi 1]) (plainFor_of_name pn0) O0 (own_entry rfl) ?_
  intro p e s m below meth c T0 hy hml hret hlk hnm W0
  refine o_iloadN W0 1 (hb hy d6_0) rfl rfl <| o_iloadN W0 2 (hb hy d6_1) rfl rfl <| o_icmpN W0 5 (hb hy d6_2) (XT.ii_ge_f (by decide)) rfl <| o_iconst W0 (v := (-1 : Int32)) 6 (hb hy d6_5) (by decide) rfl <| o_goto W0 19 (hb hy d6_6) (by decide) rfl ?_
  exact o_retI W0 hlk hret (hb hy d6_19) (by decide) (by decide) rfl
theorem rm67 (l : Launch) {Z a0} (hw : HW Z a0) (x1 : Int32) (h0 : Heap) (O0 : Old Z Z.heap.size h0) (hc1 : (0 : Int32) < x1) :
    CtrN l Z mn13 jdk_33_method_40_code 2 (some .int) [] (⟨0, 0, 0, 0⟩ : Room) #[iZ, (.int x1)] h0 [] (fun v h => v = some (.int (-1 : Int32))) := by
  refine CtrN.intro (L0 := #[vi 0, vi x1]) (plainFor_of_name pn3) O0 (own_entry rfl) ?_
  intro p e s m below meth c T0 hy hml hret hlk hnm W0
  refine o_iloadN W0 1 (hb hy d10_0) rfl rfl <| o_iloadN W0 2 (hb hy d10_1) rfl rfl <| o_icmpN W0 5 (hb hy d10_2) (XT.ii_ge_f hc1) rfl <| o_iconst W0 (v := (-1 : Int32)) 6 (hb hy d10_5) (by decide) rfl <| o_goto W0 19 (hb hy d10_6) (by decide) rfl ?_
  exact o_retI W0 hlk hret (hb hy d10_19) (by decide) (by decide) rfl
theorem rm68 (l : Launch) {Z a0} (hw : HW Z a0) (a1 a2 : Addr) (x1 : Int32) (h0 : Heap) (O0 : Old Z Z.heap.size h0) (z0 : Exa Z h0 a1 s1) (z1 : Sv l Z h0 a1 (0 : Int32) []) (z2 : Exa Z h0 a2 s1) (z3 : Sv l Z h0 a2 (own_cn x1) [((0 : Int32), x1)]) :
    CtrN l Z mn14 prog_10_method_4_code 6 (some .int) [] (⟨2, 0, 0, 27⟩ : Room) #[(.ref a1), (.ref a2)] h0 [] (fun v h => v = some (.int (-1 : Int32))) := by
  refine CtrN.intro (L0 := #[vr a1, vr a2, un, un, un, un]) (plainFor_of_name pn4) O0 (own_entry rfl) ?_
  intro p e s m below meth c T0 hy hml hret hlk hnm W0
  refine o_iconst W0 (v := 0) 1 (hb hy d7_0) rfl rfl <| o_istoreN W0 (L' := #[vr a1, vr a2, vi 0, un, un, un]) 2 (hb hy d7_1) rfl rfl <| o_iconst W0 (v := 0) 3 (hb hy d7_2) rfl rfl <| o_istoreN W0 (L' := #[vr a1, vr a2, vi 0, vi 0, un, un]) 4 (hb hy d7_3) rfl rfl <| o_iloadN W0 5 (hb hy d7_4) rfl rfl <| o_aloadN W0 6 (hb hy d7_5) rfl rfl rfl ?_
  refine o_virtualC W0 (w39 hw) (w40 hw) (o_nf W0 rfl (w42 hw)) (w42 hw) (w41 hw) (by decide) z0 (w43 hw) (w12 hw) (z1 _ W0.old (Keep.refl _ _)).1 1 0 0 (by decide) (by rw [hml]; rfl) (lenOf pd6 rfl) [iZ] rfl rfl 9 (hb hy d7_6) rfl rfl rfl all0 tri ?_
  intro v1 T1 h1 lo1 W1 K1 q1
  obtain rfl := q1.2.2
  show Gl _ _ _ _ _ _ _ _ [iZ, iZ]
  refine o_icmpY W1 68 (hb hy d7_9) (XT.ii_ge_t (by decide)) (by decide) rfl <| o_aloadN W1 69 (hb hy d7_68) rfl rfl rfl ?_
  have c2 := (z1.keep K1)
  have c3 := (z0.keep K1)
  refine o_virtualC W1 (w39 hw) (w40 hw) (o_nf W1 rfl (w42 hw)) (w42 hw) (w41 hw) (by decide) c3 (w43 hw) (w12 hw) (c2 _ W1.old (Keep.refl _ _)).1 0 0 0 (by decide) (by rw [hml]; rfl) (lenOf pd6 rfl) [] rfl rfl 72 (hb hy d7_69) rfl rfl rfl all0 tri ?_
  intro v4 T4 h4 lo4 W4 K4 q4
  obtain rfl := q4.2.2
  show Gl _ _ _ _ _ _ _ _ [iZ]
  refine o_iloadN W4 73 (hb hy d7_72) rfl rfl <| o_isub W4 (v := 0) 74 (hb hy d7_73) (by decide) rfl <| o_aloadN W4 75 (hb hy d7_74) rfl rfl rfl ?_
  have c5 := ((z2.keep K1).keep K4)
  have c6 := ((z3.keep K1).keep K4)
  refine o_virtualC W4 (w39 hw) (w40 hw) (o_nf W4 rfl (w42 hw)) (w42 hw) (w41 hw) (by decide) c5 (w43 hw) (w12 hw) (c6 _ W4.old (Keep.refl _ _)).1 1 0 0 (by decide) (by rw [hml]; rfl) (lenOf pd6 rfl) [iZ] rfl rfl 78 (hb hy d7_75) rfl rfl rfl all0 tri ?_
  intro v7 T7 h7 lo7 W7 K7 q7
  obtain rfl := q7.2.2
  show Gl _ _ _ _ _ _ _ _ [(.int (own_cn x1)), iZ]
  refine o_iloadN W7 79 (hb hy d7_78) rfl rfl <| o_isub W7 (v := ((own_cn x1) - 0)) 80 (hb hy d7_79) rfl rfl ?_
  refine o_staticC W7 (w50 hw) (w51 hw) (w52 hw) (w53 hw) (by decide) (rm67 l hw ((own_cn x1) - 0) h7 W7.old (show (0 : Int32) < ((own_cn x1) - 0) by obtain ⟨g0, e0, k0⟩ : ∃ g, own_cn x1 = g ∧ (g = 1 ∨ g = 2) := ⟨_, rfl, own_cn12 _⟩; rw [e0]; rcases k0 with rfl | rfl <;> decide)) 0 0 0 (by decide) (by rw [hml]; rfl) (lenOf pd5 rfl) [] rfl rfl 83 (hb hy d7_80) rfl rfl rfl all0 tri ?_
  intro v8 T8 h8 lo8 W8 K8 q8
  obtain rfl := q8.2.2
  show Gl _ _ _ _ _ _ _ _ [(.int (-1 : Int32))]
  exact o_retI W8 hlk hret (hb hy d7_83) (by decide) (by decide) rfl
theorem rm69 (l : Launch) {Z a0} (hw : HW Z a0)  (h0 : Heap) (O0 : Old Z Z.heap.size h0) :
    CtrN l Z mn15 method_2_code 1 (some .int) [] (⟨0, 0, 0, 0⟩ : Room) #[(.int (-1 : Int32))] h0 [] (fun v h => v = some (.int (-1 : Int32))) := by
  refine CtrN.intro (L0 := #[vi (-1 : Int32)]) (plainFor_of_name pn0) O0 (own_entry rfl) ?_
  intro p e s m below meth c T0 hy hml hret hlk hnm W0
  refine o_iloadN W0 1 (hb hy d11_0) rfl rfl <| o_ifN W0 4 (hb hy d11_1) (XT.i0_ge_f (by decide)) rfl <| o_iconst W0 (v := (-1 : Int32)) 5 (hb hy d11_4) (by decide) rfl <| o_goto W0 17 (hb hy d11_5) (by decide) rfl ?_
  exact o_retI W0 hlk hret (hb hy d11_17) (by decide) (by decide) rfl
theorem rm70 (l : Launch) {Z a0} (hw : HW Z a0) (a1 a2 : Addr) (z0 : ClassId) (x1 x2 : Int32) (z1 : ClassId) (h0 : Heap) (O0 : Old Z Z.heap.size h0) (z2 : Arv Z h0 a1 z0 .char 2 [(.int x1), (.int x2)] iZ) (hu1 : own_cp x1) (hc2 : x1 < (65536 : Int32)) (hc3 : ¬ ((255 : Int32) < x1)) (z3 : Arv Z h0 a2 z1 .byte 2 [iZ, iZ] iZ) (z4 : Z.heap.size ≤ a2) (z5 : a1 ≠ a2) (hu6 : own_cp x2) (hc7 : x2 < (65536 : Int32)) (hc8 : ¬ ((255 : Int32) < x2)) :
    CtrN l Z mn16 jdk_52_method_21_code 7 (some .int) [] (⟨0, 0, 0, 0⟩ : Room) #[(.ref a1), iZ, (.ref a2), iZ, (.int 2)] h0 [a2] (fun v h => Arv Z h a2 z1 .byte 2 [(.int (bB x1)), (.int (bB x2))] iZ ∧ v = some (.int 2)) := by
  refine CtrN.intro (L0 := #[vr a1, vi 0, vr a2, vi 0, vi 2, un, un]) (plainFor_of_name pn5) O0 (own_entry rfl) ?_
  intro p e s m below meth c T0 hy hml hret hlk hnm W0
  refine o_iconst W0 (v := 0) 1 (hb hy d13_0) rfl rfl <| o_istore W0 (L' := #[vr a1, vi 0, vr a2, vi 0, vi 2, vi 0, un]) 3 (hb hy d13_1) rfl rfl <| o_iload W0 5 (hb hy d13_3) rfl rfl <| o_iload W0 7 (hb hy d13_5) rfl rfl <| o_icmpN W0 10 (hb hy d13_7) (XT.ii_ge_f (by decide)) rfl <| o_aloadN W0 11 (hb hy d13_10) rfl rfl rfl ?_
  refine o_iloadN W0 12 (hb hy d13_11) rfl rfl <| o_caload W0 z2 (x := x1) (i := 0) (by decide) (by decide) (by decide) rfl 13 (hb hy d13_12) rfl <| o_istore W0 (L' := #[vr a1, vi 0, vr a2, vi 0, vi 2, vi 0, vi x1]) 15 (hb hy d13_13) rfl rfl <| o_iload W0 17 (hb hy d13_15) rfl rfl <| o_sipush W0 (v := 255) 20 (hb hy d13_17) (by decide) rfl <| o_icmpY W0 26 (hb hy d13_20) (XT.ii_le_t (own_cb (own_cpc hu1 hc2) hc3).2) (by decide) rfl ?_
  refine o_aloadN W0 27 (hb hy d13_26) rfl rfl rfl <| o_iloadN W0 28 (hb hy d13_27) rfl rfl <| o_iload W0 30 (hb hy d13_28) rfl rfl <| o_i2b W0 (v := (bB x1)) 31 (hb hy d13_30) rfl rfl ?_
  refine o_stB W0 z3 (i := 0) (x' := (bB x1)) (by decide) (by decide) (by decide) (Nat.lt_of_sub_eq_succ rfl) (own_b8 _) (vs' := [(.int (bB x1)), iZ]) rfl z4 m0 tri 32 (hb hy d13_31) rfl ?_
  intro T4 h4 lo4 W4 R4 V4
  refine o_iinc W4 (v := 1) (L' := #[vr a1, vi 1, vr a2, vi 0, vi 2, vi 0, vi x1]) 35 (hb hy d13_32) rfl (by decide) rfl rfl <| o_iinc W4 (v := 1) (L' := #[vr a1, vi 1, vr a2, vi 1, vi 2, vi 0, vi x1]) 38 (hb hy d13_35) rfl (by decide) rfl rfl <| o_iinc W4 (v := 1) (L' := #[vr a1, vi 1, vr a2, vi 1, vi 2, vi 1, vi x1]) 41 (hb hy d13_38) rfl (by decide) rfl rfl <| o_goto W4 3 (hb hy d13_41) (by decide) rfl <| o_iload W4 5 (hb hy d13_3) rfl rfl <| o_iload W4 7 (hb hy d13_5) rfl rfl ?_
  refine o_icmpN W4 10 (hb hy d13_7) (XT.ii_ge_f (by decide)) rfl <| o_aloadN W4 11 (hb hy d13_10) rfl rfl rfl <| o_iloadN W4 12 (hb hy d13_11) rfl rfl ?_
  have c5 := (z2.other R4 z5)
  refine o_caload W4 c5 (x := x2) (i := 1) (by decide) (by decide) (by decide) rfl 13 (hb hy d13_12) rfl <| o_istore W4 (L' := #[vr a1, vi 1, vr a2, vi 1, vi 2, vi 1, vi x2]) 15 (hb hy d13_13) rfl rfl <| o_iload W4 17 (hb hy d13_15) rfl rfl <| o_sipush W4 (v := 255) 20 (hb hy d13_17) (by decide) rfl <| o_icmpY W4 26 (hb hy d13_20) (XT.ii_le_t (own_cb (own_cpc hu6 hc7) hc8).2) (by decide) rfl <| o_aloadN W4 27 (hb hy d13_26) rfl rfl rfl ?_
  refine o_iloadN W4 28 (hb hy d13_27) rfl rfl <| o_iload W4 30 (hb hy d13_28) rfl rfl <| o_i2b W4 (v := (bB x2)) 31 (hb hy d13_30) rfl rfl ?_
  refine o_stB W4 V4 (i := 1) (x' := (bB x2)) (by decide) (by decide) (by decide) (Nat.lt_of_sub_eq_succ rfl) (own_b8 _) (vs' := [(.int (bB x1)), (.int (bB x2))]) rfl z4 m0 tri 32 (hb hy d13_31) rfl ?_
  intro T9 h9 lo9 W9 R9 V9
  refine o_iinc W9 (v := 2) (L' := #[vr a1, vi 2, vr a2, vi 1, vi 2, vi 1, vi x2]) 35 (hb hy d13_32) rfl (by decide) rfl rfl <| o_iinc W9 (v := 2) (L' := #[vr a1, vi 2, vr a2, vi 2, vi 2, vi 1, vi x2]) 38 (hb hy d13_35) rfl (by decide) rfl rfl <| o_iinc W9 (v := 2) (L' := #[vr a1, vi 2, vr a2, vi 2, vi 2, vi 2, vi x2]) 41 (hb hy d13_38) rfl (by decide) rfl rfl <| o_goto W9 3 (hb hy d13_41) (by decide) rfl <| o_iload W9 5 (hb hy d13_3) rfl rfl <| o_iload W9 7 (hb hy d13_5) rfl rfl ?_
  refine o_icmpY W9 44 (hb hy d13_7) (XT.ii_ge_t (by decide)) (by decide) rfl <| o_iload W9 46 (hb hy d13_44) rfl rfl ?_
  exact o_retI W9 hlk hret (hb hy d13_46) (by decide) (by decide) ⟨V9, rfl⟩
theorem rm71 (l : Launch) {Z a0} (hw : HW Z a0) (a1 : Addr) (z0 : ClassId) (x1 x2 : Int32) (h0 : Heap) (O0 : Old Z Z.heap.size h0) (z1 : Arv Z h0 a1 z0 .char 2 [(.int x1), (.int x2)] iZ) (hu3 : own_cp x1) (hc4 : x1 < (65536 : Int32)) (hc5 : ¬ ((255 : Int32) < x1)) (hu6 : own_cp x2) (hc7 : x2 < (65536 : Int32)) (hc8 : ¬ ((255 : Int32) < x2)) :
    CtrN l Z mn17 jdk_52_method_16_code 6 (some (.array .byte)) [] (⟨1, 1, 2, 18⟩ : Room) #[(.ref a1), iZ, (.int 2)] h0 [] (fun v h => ∃ r1 : Addr, ∃ r2 : ClassId, h0.size ≤ r1 ∧ Arv Z h r1 r2 .byte 2 [(.int (bB x1)), (.int (bB x2))] iZ ∧ v = some (.ref r1)) := by
  refine CtrN.intro (L0 := #[vr a1, vi 0, vi 2, un, un, un]) (plainFor_of_name pn5) O0 (own_entry rfl) ?_
  intro p e s m below meth c T0 hy hml hret hlk hnm W0
  refine o_iloadN W0 1 (hb hy d12_0) rfl rfl ?_
  refine o_newP W0 (aty := .byte) (w25 hw) tri (by decide) (cap := 2) (by decide) (by decide) 3 (hb hy d12_1) rfl (cells' := 1) (slots' := 2) rfl rfl (by decide) (by decide) (vs := [iZ, iZ]) (dv := iZ) rfl rfl ?_
  intro b1 T1 h1 k1 W1 E1 ge1 gz1 gb1 V1
  refine o_astoreN W1 (L' := #[vr a1, vi 0, vi 2, vr b1, un, un]) 4 (hb hy d12_3) rfl rfl rfl <| o_aloadN W1 5 (hb hy d12_4) rfl rfl rfl <| o_iloadN W1 6 (hb hy d12_5) rfl rfl <| o_aloadN W1 7 (hb hy d12_6) rfl rfl rfl <| o_iconst W1 (v := 0) 8 (hb hy d12_7) rfl rfl <| o_iloadN W1 9 (hb hy d12_8) rfl rfl ?_
  have c2 := (z1.ext E1)
  refine o_staticC W1 (w62 hw) (w63 hw) (w60 hw) (w64 hw) (by decide) (rm70 l hw a1 b1 z0 x1 x2 k1 h1 W1.old c2 hu3 hc4 hc5 V1 gz1 (own_ne z1.lt ge1) hu6 hc7 hc8) 0 1 2 (by decide) (by rw [hml]; rfl) (lenOf pd9 rfl) [] rfl rfl 12 (hb hy d12_9) rfl rfl rfl (allS ⟨gz1, (Or.inr gb1)⟩ all0) tri ?_
  intro v9 T9 h9 lo9 W9 K9 q9
  obtain ⟨P9_0, rfl⟩ := q9.2.2
  show Gl _ _ _ _ _ _ _ _ [(.int 2)]
  refine o_istore W9 (L' := #[vr a1, vi 0, vi 2, vr b1, vi 2, un]) 14 (hb hy d12_12) rfl rfl <| o_iload W9 16 (hb hy d12_14) rfl rfl <| o_iloadN W9 17 (hb hy d12_16) rfl rfl <| o_icmpY W9 57 (hb hy d12_17) (XT.ii_eq_t (by decide)) (by decide) rfl <| o_aloadN W9 58 (hb hy d12_57) rfl rfl rfl ?_
  exact o_retA W9 hlk (v := (.ref b1)) hret rfl rfl (hb hy d12_58) (by decide) (by decide) ⟨b1, k1, gb1, P9_0, rfl⟩
theorem rm72 (l : Launch) {Z a0} (hw : HW Z a0) (a1 : Addr) (z0 : ClassId) (x1 x2 : Int32) (h0 : Heap) (O0 : Old Z Z.heap.size h0) (z1 : Arv Z h0 a1 z0 .byte 2 [(.int (bB x1)), (.int (bB x2))] iZ) :
    CtrN l Z mn18 jdk_52_method_15_code 2 (some .byte) [] (⟨0, 0, 0, 0⟩ : Room) #[(.ref a1), (.int 2)] h0 [] (fun v h => v = some iZ) := by
  refine CtrN.intro (L0 := #[vr a1, vi 2]) (plainFor_of_name pn5) O0 (own_entry rfl) ?_
  intro p e s m below meth c T0 hy hml hret hlk hnm W0
  refine o_iloadN W0 1 (hb hy d14_0) rfl rfl <| o_aloadN W0 2 (hb hy d14_1) rfl rfl rfl <| o_len W0 z1 3 (hb hy d14_2) rfl <| o_isub W0 (v := 0) 4 (hb hy d14_3) (by decide) rfl <| o_bipush W0 (v := 31) 6 (hb hy d14_4) (by decide) rfl <| o_iushr W0 (v := 0) 7 (hb hy d14_6) (by decide) rfl ?_
  refine o_i2b W0 (v := 0) 8 (hb hy d14_7) (by decide) rfl ?_
  exact o_retN W0 hlk (t := .byte) hret (by simp) (z' := (0 : Int32)) (by decide) (hb hy d14_8) (by decide) (by decide) rfl
theorem rm73 (l : Launch) {Z a0} (hw : HW Z a0) (gCS : Int32) (a1 a2 : Addr) (z0 : ClassId) (x1 x2 : Int32) (h0 : Heap) (O0 : Old Z Z.heap.size h0) (SgCS : Sta Z Z.heap s1 s5 "Z" (.int gCS)) (NgCS : ¬ (gCS = (0 : Int32))) (z1 : Arv Z h0 a2 z0 .char 2 [(.int x1), (.int x2)] iZ) (hu3 : own_cp x1) (hc4 : x1 < (65536 : Int32)) (hc5 : ¬ ((255 : Int32) < x1)) (hu6 : own_cp x2) (hc7 : x2 < (65536 : Int32)) (hc8 : ¬ ((255 : Int32) < x2)) (z2 : Exa Z h0 a1 s1) (z3 : Fld Z h0 a1 s1 "coder" "B" iZ) (z4 : Z.heap.size ≤ a1) (z5 : Fld Z h0 a1 s1 "value" "[B" .null) :
    CtrN l Z mn8 jdk_42_method_149_code 6 none [] (⟨2, 1, 2, 35⟩ : Room) #[(.ref a1), (.ref a2), iZ, (.int 2), .null] h0 [a1] (fun v h => ∃ r1 : Addr, ∃ r2 : ClassId, h0.size ≤ r1 ∧ Fld Z h a1 s1 "coder" "B" iZ ∧ Fld Z h a1 s1 "value" "[B" (.ref r1) ∧ Arv Z h r1 r2 .byte 2 [(.int (bB x1)), (.int (bB x2))] iZ ∧ v = none) := by
  refine CtrN.intro (L0 := #[vr a1, vr a2, vi 0, vi 2, .val .null, un]) (plainFor_of_name pn2) O0 (own_entry rfl) ?_
  intro p e s m below meth c T0 hy hml hret hlk hnm W0
  refine o_aloadN W0 1 (hb hy d4_0) rfl rfl rfl ?_
  refine o_initO W0 (w21 hw) (w22 hw) (w23 hw) (by rw [hml]; rfl) 4 (hb hy d4_1) rfl (by decide) 0 (by exact Nat.le_of_eq rfl) (by decide) ?_
  intro T1 W1
  refine o_iloadN W1 5 (hb hy d4_4) rfl rfl <| o_ifY W1 27 (hb hy d4_5) (XT.i0_ne_t (by decide)) (by decide) rfl ?_
  refine o_getS W1 (w49 hw) Via.refl (SgCS.ext W1.ox) 30 (hb hy d4_27) rfl ?_
  intro T2 W2
  refine o_ifN W2 33 (hb hy d4_30) (XT.i0_eq_f NgCS) rfl <| o_aloadN W2 34 (hb hy d4_33) rfl rfl rfl <| o_iloadN W2 35 (hb hy d4_34) rfl rfl <| o_iloadN W2 36 (hb hy d4_35) rfl rfl ?_
  refine o_staticC W2 (w58 hw) (w59 hw) (w60 hw) (w61 hw) (by decide) (rm71 l hw a2 z0 x1 x2 h0 W2.old z1 hu3 hc4 hc5 hu6 hc7 hc8) 0 1 2 (by decide) (by rw [hml]; rfl) (lenOf pd10 rfl) [] rfl rfl 39 (hb hy d4_36) rfl rfl rfl all0 tri ?_
  intro v9 T9 h9 lo9 W9 K9 q9
  obtain ⟨r1_9, r2_9, P9_0, P9_1, rfl⟩ := q9.2.2
  show Gl _ _ _ _ _ _ _ _ [(.ref r1_9)]
  refine o_astore W9 (L' := #[vr a1, vr a2, vi 0, vi 2, .val .null, vr r1_9]) 41 (hb hy d4_39) rfl rfl rfl <| o_aloadN W9 42 (hb hy d4_41) rfl rfl rfl <| o_aload W9 44 (hb hy d4_42) rfl rfl rfl <| o_iloadN W9 45 (hb hy d4_44) rfl rfl ?_
  refine o_staticC W9 (w65 hw) (w66 hw) (w60 hw) (w67 hw) (by decide) (rm72 l hw r1_9 r2_9 x1 x2 h9 W9.old P9_1) 1 1 2 (by decide) (by rw [hml]; rfl) (lenOf pd11 rfl) [(.ref a1)] rfl rfl 48 (hb hy d4_45) rfl rfl rfl all0 tri ?_
  intro v10 T10 h10 lo10 W10 K10 q10
  obtain rfl := q10.2.2
  show Gl _ _ _ _ _ _ _ _ [iZ, (.ref a1)]
  have c11 := ((z2.keep K9).keep K10)
  have c12 := ((z3.keep K9 nin0).keep K10 nin0)
  refine o_putF W10 (w31 hw) Via.refl c12 c11 (Or.inr ⟨(w27 hw), rfl, hnm⟩) (w11 hw) (ty := .byte) (v' := iZ) (by decide) rfl (by decide) z4 m0 tri 51 (hb hy d4_48) rfl ?_
  intro T13 h13 lo13 W13 R13
  have F13 := c12.same R13
  refine o_aloadN W13 52 (hb hy d4_51) rfl rfl rfl <| o_aload W13 54 (hb hy d4_52) rfl rfl rfl ?_
  have c14 := (c11.wr R13)
  have c15 := (((z5.keep K9 nin0).keep K10 nin0).other R13 (Or.inr (slot_ne (Or.inr (w26 hw)) (Or.inr (w27 hw)) (by decide) (t := (.array .byte)) (t' := .byte) (by decide) (by decide))))
  refine o_putF W13 (w30 hw) Via.refl c15 c14 (Or.inr ⟨(w26 hw), rfl, hnm⟩) (w11 hw) (ty := (.array .byte)) (v' := (.ref r1_9)) (by decide) rfl rfl z4 m0 tri 57 (hb hy d4_54) rfl ?_
  intro T16 h16 lo16 W16 R16
  have F16 := c15.same R16
  have c17 := (F13.other R16 (Or.inr (slot_ne (Or.inr (w27 hw)) (Or.inr (w26 hw)) (by decide) (t := .byte) (t' := (.array .byte)) (by decide) (by decide))))
  have c18 := (c14.wr R16)
  have c19 := (((P9_1.keep K10 nin0).other R13 (own_ne' z2.lt P9_0)).other R16 (own_ne' z2.lt P9_0))
  exact o_ret0 W16 hlk hret (hb hy d4_57) (by decide) (by decide) ⟨r1_9, r2_9, (Nat.le_trans W2.keep.1 P9_0), c17, F16, c19, rfl⟩
theorem rm74 (l : Launch) {Z a0} (hw : HW Z a0) (gCS : Int32) (a1 a2 : Addr) (z0 : ClassId) (x1 x2 : Int32) (h0 : Heap) (O0 : Old Z Z.heap.size h0) (z1 : Arv Z h0 a2 z0 .char 2 [(.int x1), (.int x2)] iZ) (SgCS : Sta Z Z.heap s1 s5 "Z" (.int gCS)) (NgCS : ¬ (gCS = (0 : Int32))) (hu1 : own_cp x1) (hc2 : x1 < (65536 : Int32)) (hc3 : ¬ ((255 : Int32) < x1)) (hu4 : own_cp x2) (hc5 : x2 < (65536 : Int32)) (hc6 : ¬ ((255 : Int32) < x2)) (z2 : Exa Z h0 a1 s1) (z3 : Fld Z h0 a1 s1 "coder" "B" iZ) (z4 : Fld Z h0 a1 s1 "value" "[B" .null) (z5 : Z.heap.size ≤ a1) :
    CtrN l Z mn9 jdk_42_method_3_code 2 none [] (⟨3, 1, 2, 52⟩ : Room) #[(.ref a1), (.ref a2)] h0 [a1] (fun v h => ∃ r1 : Addr, ∃ r2 : ClassId, h0.size ≤ r1 ∧ Fld Z h a1 s1 "coder" "B" iZ ∧ Fld Z h a1 s1 "value" "[B" (.ref r1) ∧ Arv Z h r1 r2 .byte 2 [(.int (bB x1)), (.int (bB x2))] iZ ∧ v = none) := by
  refine CtrN.intro (L0 := #[vr a1, vr a2]) (plainFor_of_name pn2) O0 (own_entry rfl) ?_
  intro p e s m below meth c T0 hy hml hret hlk hnm W0
  refine o_aloadN W0 1 (hb hy d3_0) rfl rfl rfl <| o_aloadN W0 2 (hb hy d3_1) rfl rfl rfl <| o_iconst W0 (v := 0) 3 (hb hy d3_2) rfl rfl <| o_aloadN W0 4 (hb hy d3_3) rfl rfl rfl <| o_len W0 z1 5 (hb hy d3_4) rfl ?_
  refine o_aconstNull W0 6 (hb hy d3_5) rfl ?_
  refine o_specialC W0 rfl (w17 hw) (w18 hw) (w20 hw) (by decide) (w12 hw) (rm73 l hw gCS a1 a2 z0 x1 x2 h0 W0.old SgCS NgCS z1 hu1 hc2 hc3 hu4 hc5 hc6 z2 z3 z5 z4) 0 1 2 (by decide) (by rw [hml]; rfl) (lenOf pd1 rfl) [] rfl rfl 9 (hb hy d3_6) rfl rfl rfl (allS ⟨z5, m0⟩ all0) tri ?_
  intro v7 T7 h7 lo7 W7 K7 q7
  obtain ⟨r1_7, r2_7, P7_0, P7_1, P7_2, P7_3, rfl⟩ := q7.2.2
  show Gl _ _ _ _ _ _ _ _ []
  have c8 := (z2.keep K7)
  exact o_ret0 W7 hlk hret (hb hy d3_9) (by decide) (by decide) ⟨r1_7, r2_7, (Nat.le_trans W0.keep.1 P7_0), P7_1, P7_2, P7_3, rfl⟩
theorem rm75 (l : Launch) {Z a0} (hw : HW Z a0) (gCS : Int32) (a1 a2 : Addr) (z0 : ClassId) (x1 x2 : Int32) (h0 : Heap) (O0 : Old Z Z.heap.size h0) (z1 : Fld Z h0 a1 s1 "value" "[B" (.ref a2)) (z2 : Arv Z h0 a2 z0 .byte 2 [(.int (bB x1)), (.int (bB x2))] iZ) (z3 : Exa Z h0 a1 s1) (SgCS : Sta Z Z.heap s1 s5 "Z" (.int gCS)) (NgCS : ¬ (gCS = (0 : Int32))) (z4 : Fld Z h0 a1 s1 "coder" "B" iZ) :
    CtrN l Z mn0 jdk_42_method_54_code 1 (some .int) [] (⟨1, 0, 0, 14⟩ : Room) #[(.ref a1)] h0 [] (fun v h => v = some (.int 2)) := by
  refine CtrN.intro (L0 := #[vr a1]) (plainFor_of_name pn2) O0 (own_entry rfl) ?_
  intro p e s m below meth c T0 hy hml hret hlk hnm W0
  refine o_aloadN W0 1 (hb hy d8_0) rfl rfl rfl ?_
  refine o_getF W0 (w30 hw) Via.refl z1 4 (hb hy d8_1) rfl ?_
  intro T1 W1
  refine o_len W1 z2 5 (hb hy d8_4) rfl <| o_aloadN W1 6 (hb hy d8_5) rfl rfl rfl ?_
  refine o_virtualC W1 (w44 hw) (w45 hw) (o_nf W1 rfl (w47 hw)) (w47 hw) (w46 hw) (by decide) z3 (w48 hw) (w12 hw) (rm9 l hw gCS a1 h0 W1.old SgCS NgCS z4) 1 0 0 (by decide) (by rw [hml]; rfl) (lenOf pd3 rfl) [(.int 2)] rfl rfl 9 (hb hy d8_6) rfl rfl rfl all0 tri ?_
  intro v2 T2 h2 lo2 W2 K2 q2
  obtain rfl := q2.2.2
  show Gl _ _ _ _ _ _ _ _ [iZ, (.int 2)]
  refine o_ishr W2 (v := 2) 10 (hb hy d8_9) (by decide) rfl ?_
  exact o_retI W2 hlk hret (hb hy d8_10) (by decide) (by decide) rfl
theorem rm76 (l : Launch) {Z a0} (hw : HW Z a0) (gCS : Int32) (gF : Value) (a1 a2 : Addr) (z0 : ClassId) (x1 x2 : Int32) (h0 : Heap) (O0 : Old Z Z.heap.size h0) (z1 : Exa Z h0 a1 s1) (SgCS : Sta Z Z.heap s1 s5 "Z" (.int gCS)) (NgCS : ¬ (gCS = (0 : Int32))) (z2 : Fld Z h0 a1 s1 "coder" "B" iZ) (z3 : Fld Z h0 a1 s1 "value" "[B" (.ref a2)) (z4 : Arv Z h0 a2 z0 .byte 2 [(.int (bB x1)), (.int (bB x2))] iZ) (SgF : Sta Z Z.heap s6 s7 s8 gF) (NgF : gF.isRef = true) (hu9 : own_cp x1) (hc10 : x1 < (65536 : Int32)) (hc11 : ¬ ((255 : Int32) < x1)) :
    CtrN l Z mn1 jdk_42_method_57_code 3 (some .int) [] (⟨6, 0, 0, 90⟩ : Room) #[(.ref a1), iZ] h0 [] (fun v h => v = some (.int x1)) := by
  refine CtrN.intro (L0 := #[vr a1, vi 0, un]) (plainFor_of_name pn2) O0 (own_entry rfl) ?_
  intro p e s m below meth c T0 hy hml hret hlk hnm W0
  refine o_aloadN W0 1 (hb hy d15_0) rfl rfl rfl ?_
  refine o_virtualC W0 (w73 hw) (w74 hw) (o_nf W0 rfl (w76 hw)) (w76 hw) (w75 hw) (by decide) z1 (w77 hw) (w12 hw) (rm22 l hw gCS a1 h0 W0.old SgCS NgCS z2) 0 0 0 (by decide) (by rw [hml]; rfl) (lenOf pd12 rfl) [] rfl rfl 4 (hb hy d15_1) rfl rfl rfl all0 tri ?_
  intro v1 T1 h1 lo1 W1 K1 q1
  obtain rfl := q1.2.2
  show Gl _ _ _ _ _ _ _ _ [(.int 1)]
  refine o_ifN W1 7 (hb hy d15_4) (XT.i0_eq_f (by decide)) rfl <| o_iloadN W1 8 (hb hy d15_7) rfl rfl <| o_aloadN W1 9 (hb hy d15_8) rfl rfl rfl ?_
  have c2 := (z3.keep K1 nin0)
  refine o_getF W1 (w30 hw) Via.refl c2 12 (hb hy d15_9) rfl ?_
  intro T3 W3
  have c4 := (z4.keep K1 nin0)
  refine o_len W3 c4 13 (hb hy d15_12) rfl ?_
  refine o_staticC W3 (w78 hw) (w79 hw) (w12 hw) (w80 hw) (by decide) (rm59 l hw gF h1 W3.old SgF NgF) 0 0 0 (by decide) (by rw [hml]; rfl) (lenOf pd14 rfl) [] rfl rfl 16 (hb hy d15_13) rfl rfl rfl all0 tri ?_
  intro v5 T5 h5 lo5 W5 K5 q5
  obtain rfl := q5.2.2
  show Gl _ _ _ _ _ _ _ _ []
  refine o_aloadN W5 17 (hb hy d15_16) rfl rfl rfl ?_
  have c6 := (c2.keep K5 nin0)
  refine o_getF W5 (w30 hw) Via.refl c6 20 (hb hy d15_17) rfl ?_
  intro T7 W7
  refine o_iloadN W7 21 (hb hy d15_20) rfl rfl ?_
  have c8 := (c4.keep K5 nin0)
  refine o_baload W7 c8 (x := (bB x1)) (i := 0) (by decide) (by decide) (by decide) rfl 22 (hb hy d15_21) rfl <| o_sipush W7 (v := 255) 25 (hb hy d15_22) (by decide) rfl <| o_iand W7 (v := x1) 26 (hb hy d15_25) (own_lo8 (own_cb (own_cpc hu9 hc10) hc11)) rfl ?_
  exact o_retI W7 hlk hret (hb hy d15_26) (by decide) (by decide) rfl
theorem rm77 (l : Launch) {Z a0} (hw : HW Z a0)  (h0 : Heap) (O0 : Old Z Z.heap.size h0) :
    CtrN l Z mn20 jdk_41_method_11_code 3 (some .int) [] (⟨0, 0, 0, 0⟩ : Room) #[(.int 1), (.int 2), .null] h0 [] (fun v h => v = some (.int 1)) := by
  refine CtrN.intro (L0 := #[vi 1, vi 2, .val .null]) (plainFor_of_name pn6) O0 (own_entry rfl) ?_
  intro p e s m below meth c T0 hy hml hret hlk hnm W0
  refine o_iloadN W0 1 (hb hy d18_0) rfl rfl <| o_ifN W0 4 (hb hy d18_1) (XT.i0_lt_f (by decide)) rfl <| o_iloadN W0 5 (hb hy d18_4) rfl rfl <| o_iloadN W0 6 (hb hy d18_5) rfl rfl <| o_icmpY W0 16 (hb hy d18_6) (XT.ii_lt_t (by decide)) (by decide) rfl <| o_iloadN W0 17 (hb hy d18_16) rfl rfl ?_
  exact o_retI W0 hlk hret (hb hy d18_17) (by decide) (by decide) rfl
theorem rm78 (l : Launch) {Z a0} (hw : HW Z a0) (a1 : Addr) (h0 : Heap) (O0 : Old Z Z.heap.size h0) :
    CtrN l Z mn20 jdk_41_method_11_code 3 (some .int) [] (⟨0, 0, 0, 0⟩ : Room) #[(.int 1), (.int 2), (.ref a1)] h0 [] (fun v h => v = some (.int 1)) := by
  refine CtrN.intro (L0 := #[vi 1, vi 2, vr a1]) (plainFor_of_name pn6) O0 (own_entry rfl) ?_
  intro p e s m below meth c T0 hy hml hret hlk hnm W0
  refine o_iloadN W0 1 (hb hy d18_0) rfl rfl <| o_ifN W0 4 (hb hy d18_1) (XT.i0_lt_f (by decide)) rfl <| o_iloadN W0 5 (hb hy d18_4) rfl rfl <| o_iloadN W0 6 (hb hy d18_5) rfl rfl <| o_icmpY W0 16 (hb hy d18_6) (XT.ii_lt_t (by decide)) (by decide) rfl <| o_iloadN W0 17 (hb hy d18_16) rfl rfl ?_
  exact o_retI W0 hlk hret (hb hy d18_17) (by decide) (by decide) rfl
theorem rm79 (l : Launch) {Z a0} (hw : HW Z a0) (gF : Value) (h0 : Heap) (O0 : Old Z Z.heap.size h0) (SgF : Sta Z Z.heap s6 s7 s8 gF) (NgF : gF.isRef = true) :
    CtrN l Z mn21 jdk_42_method_155_code 2 none [] (⟨1, 0, 0, 14⟩ : Room) #[(.int 1), (.int 2)] h0 [] (fun v h => v = none) := by
  refine CtrN.intro (L0 := #[vi 1, vi 2]) (plainFor_of_name pn2) O0 (own_entry rfl) ?_
  intro p e s m below meth c T0 hy hml hret hlk hnm W0
  refine o_iloadN W0 1 (hb hy d17_0) rfl rfl <| o_iloadN W0 2 (hb hy d17_1) rfl rfl ?_
  rcases ref_cases NgF with rfl | ⟨aF1, rfl⟩
  · refine o_getS W0 (w81 hw) Via.refl (SgF.ext W0.ox) 5 (hb hy d17_2) rfl ?_
    intro T2 W2
    refine o_staticC W2 (w83 hw) (w84 hw) (w82 hw) (w85 hw) (by decide) (rm77 l hw  h0 W2.old ) 0 0 0 (by decide) (by rw [hml]; rfl) (lenOf pd13 rfl) [] rfl rfl 8 (hb hy d17_5) rfl rfl rfl all0 tri ?_
    intro v3 T3 h3 lo3 W3 K3 q3
    obtain rfl := q3.2.2
    show Gl _ _ _ _ _ _ _ _ [(.int 1)]
    refine o_pop W3 9 (hb hy d17_8) rfl rfl ?_
    exact o_ret0 W3 hlk hret (hb hy d17_9) (by decide) (by decide) rfl
  · refine o_getS W0 (w81 hw) Via.refl (SgF.ext W0.ox) 5 (hb hy d17_2) rfl ?_
    intro T4 W4
    refine o_staticC W4 (w83 hw) (w84 hw) (w82 hw) (w85 hw) (by decide) (rm78 l hw aF1 h0 W4.old ) 0 0 0 (by decide) (by rw [hml]; rfl) (lenOf pd13 rfl) [] rfl rfl 8 (hb hy d17_5) rfl rfl rfl all0 tri ?_
    intro v5 T5 h5 lo5 W5 K5 q5
    obtain rfl := q5.2.2
    show Gl _ _ _ _ _ _ _ _ [(.int 1)]
    refine o_pop W5 9 (hb hy d17_8) rfl rfl ?_
    exact o_ret0 W5 hlk hret (hb hy d17_9) (by decide) (by decide) rfl
theorem rm80 (l : Launch) {Z a0} (hw : HW Z a0) (gCS : Int32) (gF : Value) (a1 a2 : Addr) (z0 : ClassId) (x1 x2 : Int32) (h0 : Heap) (O0 : Old Z Z.heap.size h0) (z1 : Exa Z h0 a1 s1) (SgCS : Sta Z Z.heap s1 s5 "Z" (.int gCS)) (NgCS : ¬ (gCS = (0 : Int32))) (z2 : Fld Z h0 a1 s1 "coder" "B" iZ) (z3 : Fld Z h0 a1 s1 "value" "[B" (.ref a2)) (z4 : Arv Z h0 a2 z0 .byte 2 [(.int (bB x1)), (.int (bB x2))] iZ) (SgF : Sta Z Z.heap s6 s7 s8 gF) (NgF : gF.isRef = true) (hu9 : own_cp x2) (hc10 : x2 < (65536 : Int32)) (hc11 : ¬ ((255 : Int32) < x2)) :
    CtrN l Z mn1 jdk_42_method_57_code 3 (some .int) [] (⟨6, 0, 0, 90⟩ : Room) #[(.ref a1), (.int 1)] h0 [] (fun v h => v = some (.int x2)) := by
  refine CtrN.intro (L0 := #[vr a1, vi 1, un]) (plainFor_of_name pn2) O0 (own_entry rfl) ?_
  intro p e s m below meth c T0 hy hml hret hlk hnm W0
  refine o_aloadN W0 1 (hb hy d15_0) rfl rfl rfl ?_
  refine o_virtualC W0 (w73 hw) (w74 hw) (o_nf W0 rfl (w76 hw)) (w76 hw) (w75 hw) (by decide) z1 (w77 hw) (w12 hw) (rm22 l hw gCS a1 h0 W0.old SgCS NgCS z2) 0 0 0 (by decide) (by rw [hml]; rfl) (lenOf pd12 rfl) [] rfl rfl 4 (hb hy d15_1) rfl rfl rfl all0 tri ?_
  intro v1 T1 h1 lo1 W1 K1 q1
  obtain rfl := q1.2.2
  show Gl _ _ _ _ _ _ _ _ [(.int 1)]
  refine o_ifN W1 7 (hb hy d15_4) (XT.i0_eq_f (by decide)) rfl <| o_iloadN W1 8 (hb hy d15_7) rfl rfl <| o_aloadN W1 9 (hb hy d15_8) rfl rfl rfl ?_
  have c2 := (z3.keep K1 nin0)
  refine o_getF W1 (w30 hw) Via.refl c2 12 (hb hy d15_9) rfl ?_
  intro T3 W3
  have c4 := (z4.keep K1 nin0)
  refine o_len W3 c4 13 (hb hy d15_12) rfl ?_
  refine o_staticC W3 (w78 hw) (w79 hw) (w12 hw) (w80 hw) (by decide) (rm79 l hw gF h1 W3.old SgF NgF) 0 0 0 (by decide) (by rw [hml]; rfl) (lenOf pd14 rfl) [] rfl rfl 16 (hb hy d15_13) rfl rfl rfl all0 tri ?_
  intro v5 T5 h5 lo5 W5 K5 q5
  obtain rfl := q5.2.2
  show Gl _ _ _ _ _ _ _ _ []
  refine o_aloadN W5 17 (hb hy d15_16) rfl rfl rfl ?_
  have c6 := (c2.keep K5 nin0)
  refine o_getF W5 (w30 hw) Via.refl c6 20 (hb hy d15_17) rfl ?_
  intro T7 W7
  refine o_iloadN W7 21 (hb hy d15_20) rfl rfl ?_
  have c8 := (c4.keep K5 nin0)
  refine o_baload W7 c8 (x := (bB x2)) (i := 1) (by decide) (by decide) (by decide) rfl 22 (hb hy d15_21) rfl <| o_sipush W7 (v := 255) 25 (hb hy d15_22) (by decide) rfl <| o_iand W7 (v := x2) 26 (hb hy d15_25) (own_lo8 (own_cb (own_cpc hu9 hc10) hc11)) rfl ?_
  exact o_retI W7 hlk hret (hb hy d15_26) (by decide) (by decide) rfl
theorem rm81 (l : Launch) {Z a0} (hw : HW Z a0) (a1 a2 : Addr) (z0 : ClassId) (x1 x2 : Int32) (z1 : ClassId) (h0 : Heap) (O0 : Old Z Z.heap.size h0) (z2 : Arv Z h0 a1 z0 .char 2 [(.int x1), (.int x2)] iZ) (hu1 : own_cp x1) (hc2 : x1 < (65536 : Int32)) (hc3 : ¬ ((255 : Int32) < x1)) (z3 : Arv Z h0 a2 z1 .byte 2 [iZ, iZ] iZ) (z4 : Z.heap.size ≤ a2) (z5 : a1 ≠ a2) (hu6 : own_cp x2) (hc7 : x2 < (65536 : Int32)) (hc8 : (255 : Int32) < x2) :
    CtrN l Z mn16 jdk_52_method_21_code 7 (some .int) [] (⟨0, 0, 0, 0⟩ : Room) #[(.ref a1), iZ, (.ref a2), iZ, (.int 2)] h0 [a2] (fun v h => Arv Z h a2 z1 .byte 2 [(.int (bB x1)), iZ] iZ ∧ v = some (.int 1)) := by
  refine CtrN.intro (L0 := #[vr a1, vi 0, vr a2, vi 0, vi 2, un, un]) (plainFor_of_name pn5) O0 (own_entry rfl) ?_
  intro p e s m below meth c T0 hy hml hret hlk hnm W0
  refine o_iconst W0 (v := 0) 1 (hb hy d13_0) rfl rfl <| o_istore W0 (L' := #[vr a1, vi 0, vr a2, vi 0, vi 2, vi 0, un]) 3 (hb hy d13_1) rfl rfl <| o_iload W0 5 (hb hy d13_3) rfl rfl <| o_iload W0 7 (hb hy d13_5) rfl rfl <| o_icmpN W0 10 (hb hy d13_7) (XT.ii_ge_f (by decide)) rfl <| o_aloadN W0 11 (hb hy d13_10) rfl rfl rfl ?_
  refine o_iloadN W0 12 (hb hy d13_11) rfl rfl <| o_caload W0 z2 (x := x1) (i := 0) (by decide) (by decide) (by decide) rfl 13 (hb hy d13_12) rfl <| o_istore W0 (L' := #[vr a1, vi 0, vr a2, vi 0, vi 2, vi 0, vi x1]) 15 (hb hy d13_13) rfl rfl <| o_iload W0 17 (hb hy d13_15) rfl rfl <| o_sipush W0 (v := 255) 20 (hb hy d13_17) (by decide) rfl <| o_icmpY W0 26 (hb hy d13_20) (XT.ii_le_t (own_cb (own_cpc hu1 hc2) hc3).2) (by decide) rfl ?_
  refine o_aloadN W0 27 (hb hy d13_26) rfl rfl rfl <| o_iloadN W0 28 (hb hy d13_27) rfl rfl <| o_iload W0 30 (hb hy d13_28) rfl rfl <| o_i2b W0 (v := (bB x1)) 31 (hb hy d13_30) rfl rfl ?_
  refine o_stB W0 z3 (i := 0) (x' := (bB x1)) (by decide) (by decide) (by decide) (Nat.lt_of_sub_eq_succ rfl) (own_b8 _) (vs' := [(.int (bB x1)), iZ]) rfl z4 m0 tri 32 (hb hy d13_31) rfl ?_
  intro T4 h4 lo4 W4 R4 V4
  refine o_iinc W4 (v := 1) (L' := #[vr a1, vi 1, vr a2, vi 0, vi 2, vi 0, vi x1]) 35 (hb hy d13_32) rfl (by decide) rfl rfl <| o_iinc W4 (v := 1) (L' := #[vr a1, vi 1, vr a2, vi 1, vi 2, vi 0, vi x1]) 38 (hb hy d13_35) rfl (by decide) rfl rfl <| o_iinc W4 (v := 1) (L' := #[vr a1, vi 1, vr a2, vi 1, vi 2, vi 1, vi x1]) 41 (hb hy d13_38) rfl (by decide) rfl rfl <| o_goto W4 3 (hb hy d13_41) (by decide) rfl <| o_iload W4 5 (hb hy d13_3) rfl rfl <| o_iload W4 7 (hb hy d13_5) rfl rfl ?_
  refine o_icmpN W4 10 (hb hy d13_7) (XT.ii_ge_f (by decide)) rfl <| o_aloadN W4 11 (hb hy d13_10) rfl rfl rfl <| o_iloadN W4 12 (hb hy d13_11) rfl rfl ?_
  have c5 := (z2.other R4 z5)
  refine o_caload W4 c5 (x := x2) (i := 1) (by decide) (by decide) (by decide) rfl 13 (hb hy d13_12) rfl <| o_istore W4 (L' := #[vr a1, vi 1, vr a2, vi 1, vi 2, vi 1, vi x2]) 15 (hb hy d13_13) rfl rfl <| o_iload W4 17 (hb hy d13_15) rfl rfl <| o_sipush W4 (v := 255) 20 (hb hy d13_17) (by decide) rfl <| o_icmpN W4 23 (hb hy d13_20) (XT.ii_le_f hc8) rfl <| o_iload W4 25 (hb hy d13_23) rfl rfl ?_
  exact o_retI W4 hlk hret (hb hy d13_25) (by decide) (by decide) ⟨V4, rfl⟩
theorem rm82 (l : Launch) {Z a0} (hw : HW Z a0) (a1 : Addr) (x1 : Int32) (z0 : ClassId) (h0 : Heap) (O0 : Old Z Z.heap.size h0) (z1 : Sta Z Z.heap s0 s2 "Z" (.int 1)) (z2 : Sta Z Z.heap s0 s3 "I" iZ) (z3 : Arv Z h0 a1 z0 .byte 4 [iZ, iZ, iZ, iZ] iZ) (z4 : Z.heap.size ≤ a1) (z5 : Sta Z Z.heap s0 s4 "I" (.int 8)) :
    CtrN l Z mn24 jdk_52_method_4_code 3 none [] (⟨0, 0, 0, 0⟩ : Room) #[(.ref a1), iZ, (.int x1)] h0 [a1] (fun v h => Arv Z h a1 z0 .byte 4 [(.int (bH x1)), (.int (bL x1)), iZ, iZ] iZ ∧ v = none) := by
  refine CtrN.intro (L0 := #[vr a1, vi 0, vi x1]) (plainFor_of_name pn5) O0 (own_entry rfl) ?_
  intro p e s m below meth c T0 hy hml hret hlk hnm W0
  refine o_getS W0 (w107 hw) Via.refl (z1.ext W0.ox) 3 (hb hy d24_0) rfl ?_
  intro T1 W1
  refine o_ifY W1 28 (hb hy d24_3) (XT.i0_ne_t (by decide)) (by decide) rfl <| o_iloadN W1 29 (hb hy d24_28) rfl rfl <| o_iconst W1 (v := 1) 30 (hb hy d24_29) rfl rfl <| o_ishl W1 (v := 0) 31 (hb hy d24_30) (by decide) rfl <| o_istoreN W1 (L' := #[vr a1, vi 0, vi x1]) 32 (hb hy d24_31) rfl rfl <| o_aloadN W1 33 (hb hy d24_32) rfl rfl rfl ?_
  refine o_iloadN W1 34 (hb hy d24_33) rfl rfl <| o_iinc W1 (v := 1) (L' := #[vr a1, vi 1, vi x1]) 37 (hb hy d24_34) rfl (by decide) rfl rfl <| o_iloadN W1 38 (hb hy d24_37) rfl rfl ?_
  refine o_getS W1 (w108 hw) Via.refl (z2.ext W1.ox) 41 (hb hy d24_38) rfl ?_
  intro T2 W2
  refine o_ishr W2 (v := (x1 >>> ((0 : Int32) &&& 31))) 42 (hb hy d24_41) rfl rfl <| o_i2b W2 (v := (bH x1)) 43 (hb hy d24_42) rfl rfl ?_
  refine o_stB W2 z3 (i := 0) (x' := (bH x1)) (by decide) (by decide) (by decide) (Nat.lt_of_sub_eq_succ rfl) (own_b8 _) (vs' := [(.int (bH x1)), iZ, iZ, iZ]) rfl z4 m0 tri 44 (hb hy d24_43) rfl ?_
  intro T3 h3 lo3 W3 R3 V3
  refine o_aloadN W3 45 (hb hy d24_44) rfl rfl rfl <| o_iloadN W3 46 (hb hy d24_45) rfl rfl <| o_iloadN W3 47 (hb hy d24_46) rfl rfl ?_
  refine o_getS W3 (w109 hw) Via.refl (z5.ext W3.ox) 50 (hb hy d24_47) rfl ?_
  intro T4 W4
  refine o_ishr W4 (v := (x1 >>> ((8 : Int32) &&& 31))) 51 (hb hy d24_50) rfl rfl <| o_i2b W4 (v := (bL x1)) 52 (hb hy d24_51) rfl rfl ?_
  refine o_stB W4 V3 (i := 1) (x' := (bL x1)) (by decide) (by decide) (by decide) (Nat.lt_of_sub_eq_succ rfl) (own_b8 _) (vs' := [(.int (bH x1)), (.int (bL x1)), iZ, iZ]) rfl z4 m0 tri 53 (hb hy d24_52) rfl ?_
  intro T5 h5 lo5 W5 R5 V5
  exact o_ret0 W5 hlk hret (hb hy d24_53) (by decide) (by decide) ⟨V5, rfl⟩
theorem rm83 (l : Launch) {Z a0} (hw : HW Z a0) (a1 : Addr) (x1 : Int32) (z0 : ClassId) (x2 : Int32) (h0 : Heap) (O0 : Old Z Z.heap.size h0) (z1 : Sta Z Z.heap s0 s2 "Z" (.int 1)) (z2 : Sta Z Z.heap s0 s3 "I" iZ) (z3 : Arv Z h0 a1 z0 .byte 4 [(.int (bH x2)), (.int (bL x2)), iZ, iZ] iZ) (z4 : Z.heap.size ≤ a1) (z5 : Sta Z Z.heap s0 s4 "I" (.int 8)) :
    CtrN l Z mn24 jdk_52_method_4_code 3 none [] (⟨0, 0, 0, 0⟩ : Room) #[(.ref a1), (.int 1), (.int x1)] h0 [a1] (fun v h => Arv Z h a1 z0 .byte 4 [(.int (bH x2)), (.int (bL x2)), (.int (bH x1)), (.int (bL x1))] iZ ∧ v = none) := by
  refine CtrN.intro (L0 := #[vr a1, vi 1, vi x1]) (plainFor_of_name pn5) O0 (own_entry rfl) ?_
  intro p e s m below meth c T0 hy hml hret hlk hnm W0
  refine o_getS W0 (w107 hw) Via.refl (z1.ext W0.ox) 3 (hb hy d24_0) rfl ?_
  intro T1 W1
  refine o_ifY W1 28 (hb hy d24_3) (XT.i0_ne_t (by decide)) (by decide) rfl <| o_iloadN W1 29 (hb hy d24_28) rfl rfl <| o_iconst W1 (v := 1) 30 (hb hy d24_29) rfl rfl <| o_ishl W1 (v := 2) 31 (hb hy d24_30) (by decide) rfl <| o_istoreN W1 (L' := #[vr a1, vi 2, vi x1]) 32 (hb hy d24_31) rfl rfl <| o_aloadN W1 33 (hb hy d24_32) rfl rfl rfl ?_
  refine o_iloadN W1 34 (hb hy d24_33) rfl rfl <| o_iinc W1 (v := 3) (L' := #[vr a1, vi 3, vi x1]) 37 (hb hy d24_34) rfl (by decide) rfl rfl <| o_iloadN W1 38 (hb hy d24_37) rfl rfl ?_
  refine o_getS W1 (w108 hw) Via.refl (z2.ext W1.ox) 41 (hb hy d24_38) rfl ?_
  intro T2 W2
  refine o_ishr W2 (v := (x1 >>> ((0 : Int32) &&& 31))) 42 (hb hy d24_41) rfl rfl <| o_i2b W2 (v := (bH x1)) 43 (hb hy d24_42) rfl rfl ?_
  refine o_stB W2 z3 (i := 2) (x' := (bH x1)) (by decide) (by decide) (by decide) (Nat.lt_of_sub_eq_succ rfl) (own_b8 _) (vs' := [(.int (bH x2)), (.int (bL x2)), (.int (bH x1)), iZ]) rfl z4 m0 tri 44 (hb hy d24_43) rfl ?_
  intro T3 h3 lo3 W3 R3 V3
  refine o_aloadN W3 45 (hb hy d24_44) rfl rfl rfl <| o_iloadN W3 46 (hb hy d24_45) rfl rfl <| o_iloadN W3 47 (hb hy d24_46) rfl rfl ?_
  refine o_getS W3 (w109 hw) Via.refl (z5.ext W3.ox) 50 (hb hy d24_47) rfl ?_
  intro T4 W4
  refine o_ishr W4 (v := (x1 >>> ((8 : Int32) &&& 31))) 51 (hb hy d24_50) rfl rfl <| o_i2b W4 (v := (bL x1)) 52 (hb hy d24_51) rfl rfl ?_
  refine o_stB W4 V3 (i := 3) (x' := (bL x1)) (by decide) (by decide) (by decide) (Nat.lt_of_sub_eq_succ rfl) (own_b8 _) (vs' := [(.int (bH x2)), (.int (bL x2)), (.int (bH x1)), (.int (bL x1))]) rfl z4 m0 tri 53 (hb hy d24_52) rfl ?_
  intro T5 h5 lo5 W5 R5 V5
  exact o_ret0 W5 hlk hret (hb hy d24_53) (by decide) (by decide) ⟨V5, rfl⟩
theorem rm84 (l : Launch) {Z a0} (hw : HW Z a0) (a1 : Addr) (z0 : ClassId) (x1 x2 : Int32) (h0 : Heap) (O0 : Old Z Z.heap.size h0) (z1 : Arv Z h0 a1 z0 .char 2 [(.int x1), (.int x2)] iZ) (z2 : Sta Z Z.heap s0 s2 "Z" (.int 1)) (z3 : Sta Z Z.heap s0 s3 "I" iZ) (z4 : Sta Z Z.heap s0 s4 "I" (.int 8)) :
    CtrN l Z mn25 jdk_52_method_14_code 5 (some (.array .byte)) [] (⟨2, 1, 4, 24⟩ : Room) #[(.ref a1), iZ, (.int 2)] h0 [] (fun v h => ∃ r1 : Addr, ∃ r2 : ClassId, h0.size ≤ r1 ∧ Arv Z h r1 r2 .byte 4 [(.int (bH x1)), (.int (bL x1)), (.int (bH x2)), (.int (bL x2))] iZ ∧ v = some (.ref r1)) := by
  refine CtrN.intro (L0 := #[vr a1, vi 0, vi 2, un, un]) (plainFor_of_name pn5) O0 (own_entry rfl) ?_
  intro p e s m below meth c T0 hy hml hret hlk hnm W0
  refine o_iloadN W0 1 (hb hy d21_0) rfl rfl ?_
  refine o_staticC W0 (w97 hw) (w98 hw) (w60 hw) (w99 hw) (by decide) (rm47 l hw  h0 W0.old ) 0 1 4 (by decide) (by rw [hml]; rfl) (lenOf pd15 rfl) [] rfl rfl 4 (hb hy d21_1) rfl rfl rfl all0 tri ?_
  intro v1 T1 h1 lo1 W1 K1 q1
  obtain ⟨r1_1, r2_1, P1_0, P1_1, rfl⟩ := q1.2.2
  show Gl _ _ _ _ _ _ _ _ [(.ref r1_1)]
  refine o_astoreN W1 (L' := #[vr a1, vi 0, vi 2, vr r1_1, un]) 5 (hb hy d21_4) rfl rfl rfl <| o_iconst W1 (v := 0) 6 (hb hy d21_5) rfl rfl <| o_istore W1 (L' := #[vr a1, vi 0, vi 2, vr r1_1, vi 0]) 8 (hb hy d21_6) rfl rfl <| o_iload W1 10 (hb hy d21_8) rfl rfl <| o_iloadN W1 11 (hb hy d21_10) rfl rfl <| o_icmpN W1 14 (hb hy d21_11) (XT.ii_ge_f (by decide)) rfl ?_
  refine o_aloadN W1 15 (hb hy d21_14) rfl rfl rfl <| o_iload W1 17 (hb hy d21_15) rfl rfl <| o_aloadN W1 18 (hb hy d21_17) rfl rfl rfl <| o_iloadN W1 19 (hb hy d21_18) rfl rfl ?_
  have c2 := (z1.keep K1 nin0)
  refine o_caload W1 c2 (x := x1) (i := 0) (by decide) (by decide) (by decide) rfl 20 (hb hy d21_19) rfl ?_
  refine o_staticC W1 (w104 hw) (w105 hw) (w60 hw) (w106 hw) (by decide) (rm82 l hw r1_1 x1 r2_1 h1 W1.old z2 z3 P1_1 (Nat.le_trans W0.zs P1_0) z4) 0 1 4 (by decide) (by rw [hml]; rfl) (lenOf pd16 rfl) [] rfl rfl 23 (hb hy d21_20) rfl rfl rfl (allS ⟨(Nat.le_trans W0.zs P1_0), (Or.inr (Nat.le_trans W0.keep.1 P1_0))⟩ all0) tri ?_
  intro v3 T3 h3 lo3 W3 K3 q3
  obtain ⟨P3_0, rfl⟩ := q3.2.2
  show Gl _ _ _ _ _ _ _ _ []
  refine o_iinc W3 (v := 1) (L' := #[vr a1, vi 1, vi 2, vr r1_1, vi 0]) 26 (hb hy d21_23) rfl (by decide) rfl rfl <| o_iinc W3 (v := 1) (L' := #[vr a1, vi 1, vi 2, vr r1_1, vi 1]) 29 (hb hy d21_26) rfl (by decide) rfl rfl <| o_goto W3 8 (hb hy d21_29) (by decide) rfl <| o_iload W3 10 (hb hy d21_8) rfl rfl <| o_iloadN W3 11 (hb hy d21_10) rfl rfl <| o_icmpN W3 14 (hb hy d21_11) (XT.ii_ge_f (by decide)) rfl ?_
  refine o_aloadN W3 15 (hb hy d21_14) rfl rfl rfl <| o_iload W3 17 (hb hy d21_15) rfl rfl <| o_aloadN W3 18 (hb hy d21_17) rfl rfl rfl <| o_iloadN W3 19 (hb hy d21_18) rfl rfl ?_
  have c4 := (c2.keep K3 (ninS (own_ne z1.lt P1_0) nin0))
  refine o_caload W3 c4 (x := x2) (i := 1) (by decide) (by decide) (by decide) rfl 20 (hb hy d21_19) rfl ?_
  refine o_staticC W3 (w104 hw) (w105 hw) (w60 hw) (w106 hw) (by decide) (rm83 l hw r1_1 x2 r2_1 x1 h3 W3.old z2 z3 P3_0 (Nat.le_trans W0.zs P1_0) z4) 0 1 4 (by decide) (by rw [hml]; rfl) (lenOf pd16 rfl) [] rfl rfl 23 (hb hy d21_20) rfl rfl rfl (allS ⟨(Nat.le_trans W0.zs P1_0), (Or.inr (Nat.le_trans W0.keep.1 P1_0))⟩ all0) tri ?_
  intro v5 T5 h5 lo5 W5 K5 q5
  obtain ⟨P5_0, rfl⟩ := q5.2.2
  show Gl _ _ _ _ _ _ _ _ []
  refine o_iinc W5 (v := 2) (L' := #[vr a1, vi 2, vi 2, vr r1_1, vi 1]) 26 (hb hy d21_23) rfl (by decide) rfl rfl <| o_iinc W5 (v := 2) (L' := #[vr a1, vi 2, vi 2, vr r1_1, vi 2]) 29 (hb hy d21_26) rfl (by decide) rfl rfl <| o_goto W5 8 (hb hy d21_29) (by decide) rfl <| o_iload W5 10 (hb hy d21_8) rfl rfl <| o_iloadN W5 11 (hb hy d21_10) rfl rfl <| o_icmpY W5 32 (hb hy d21_11) (XT.ii_ge_t (by decide)) (by decide) rfl ?_
  refine o_aloadN W5 33 (hb hy d21_32) rfl rfl rfl ?_
  exact o_retA W5 hlk (v := (.ref r1_1)) hret rfl rfl (hb hy d21_33) (by decide) (by decide) ⟨r1_1, r2_1, (Nat.le_trans W0.keep.1 P1_0), P5_0, rfl⟩
theorem rm85 (l : Launch) {Z a0} (hw : HW Z a0) (a1 : Addr) (z0 : ClassId) (x1 x2 : Int32) (h0 : Heap) (O0 : Old Z Z.heap.size h0) (z1 : Sta Z Z.heap s0 s2 "Z" (.int 1)) (z2 : Arv Z h0 a1 z0 .byte 4 [(.int (bH x1)), (.int (bL x1)), (.int (bH x2)), (.int (bL x2))] iZ) (z3 : Sta Z Z.heap s0 s3 "I" iZ) (z4 : Sta Z Z.heap s0 s4 "I" (.int 8)) (hu4 : own_cp x2) (hc5 : x2 < (65536 : Int32)) :
    CtrN l Z mn26 jdk_52_method_5_code 2 (some .char) [] (⟨0, 0, 0, 0⟩ : Room) #[(.ref a1), (.int 1)] h0 [] (fun v h => v = some (.int x2)) := by
  refine CtrN.intro (L0 := #[vr a1, vi 1]) (plainFor_of_name pn5) O0 (own_entry rfl) ?_
  intro p e s m below meth c T0 hy hml hret hlk hnm W0
  refine o_getS W0 (w107 hw) Via.refl (z1.ext W0.ox) 3 (hb hy d25_0) rfl ?_
  intro T1 W1
  refine o_ifY W1 28 (hb hy d25_3) (XT.i0_ne_t (by decide)) (by decide) rfl <| o_iloadN W1 29 (hb hy d25_28) rfl rfl <| o_iconst W1 (v := 1) 30 (hb hy d25_29) rfl rfl <| o_ishl W1 (v := 2) 31 (hb hy d25_30) (by decide) rfl <| o_istoreN W1 (L' := #[vr a1, vi 2]) 32 (hb hy d25_31) rfl rfl <| o_aloadN W1 33 (hb hy d25_32) rfl rfl rfl ?_
  refine o_iloadN W1 34 (hb hy d25_33) rfl rfl <| o_iinc W1 (v := 3) (L' := #[vr a1, vi 3]) 37 (hb hy d25_34) rfl (by decide) rfl rfl <| o_baload W1 z2 (x := (bH x2)) (i := 2) (by decide) (by decide) (by decide) rfl 38 (hb hy d25_37) rfl <| o_sipush W1 (v := 255) 41 (hb hy d25_38) (by decide) rfl <| o_iand W1 (v := ((bH x2) &&& 255)) 42 (hb hy d25_41) rfl rfl ?_
  refine o_getS W1 (w108 hw) Via.refl (z3.ext W1.ox) 45 (hb hy d25_42) rfl ?_
  intro T2 W2
  refine o_ishl W2 (v := (((bH x2) &&& 255) <<< ((0 : Int32) &&& 31))) 46 (hb hy d25_45) rfl rfl <| o_aloadN W2 47 (hb hy d25_46) rfl rfl rfl <| o_iloadN W2 48 (hb hy d25_47) rfl rfl <| o_baload W2 z2 (x := (bL x2)) (i := 3) (by decide) (by decide) (by decide) rfl 49 (hb hy d25_48) rfl <| o_sipush W2 (v := 255) 52 (hb hy d25_49) (by decide) rfl <| o_iand W2 (v := ((bL x2) &&& 255)) 53 (hb hy d25_52) rfl rfl ?_
  refine o_getS W2 (w109 hw) Via.refl (z4.ext W2.ox) 56 (hb hy d25_53) rfl ?_
  intro T3 W3
  refine o_ishl W3 (v := (((bL x2) &&& 255) <<< ((8 : Int32) &&& 31))) 57 (hb hy d25_56) rfl rfl <| o_ior W3 (v := ((((bH x2) &&& 255) <<< ((0 : Int32) &&& 31)) ||| (((bL x2) &&& 255) <<< ((8 : Int32) &&& 31)))) 58 (hb hy d25_57) rfl rfl <| o_i2c W3 (v := x2) 59 (hb hy d25_58) (own_join (own_cpc hu4 hc5)) rfl ?_
  exact o_retN W3 hlk (t := .char) hret (by simp) (z' := x2) (own_i2cc (own_cpc hu4 hc5)) (hb hy d25_59) (by decide) (by decide) rfl
theorem rm86 (l : Launch) {Z a0} (hw : HW Z a0) (a1 : Addr) (z0 : ClassId) (x1 x2 : Int32) (h0 : Heap) (O0 : Old Z Z.heap.size h0) (z1 : Arv Z h0 a1 z0 .char 2 [(.int x1), (.int x2)] iZ) (hu3 : own_cp x1) (hc4 : x1 < (65536 : Int32)) (hc5 : ¬ ((255 : Int32) < x1)) (hu6 : own_cp x2) (hc7 : x2 < (65536 : Int32)) (hc8 : (255 : Int32) < x2) (z2 : Sta Z Z.heap s0 s2 "Z" (.int 1)) (z3 : Sta Z Z.heap s0 s3 "I" iZ) (z4 : Sta Z Z.heap s0 s4 "I" (.int 8)) :
    CtrN l Z mn17 jdk_52_method_16_code 6 (some (.array .byte)) [] (⟨3, 2, 6, 40⟩ : Room) #[(.ref a1), iZ, (.int 2)] h0 [] (fun v h => ∃ r1 : Addr, ∃ r2 : ClassId, h0.size ≤ r1 ∧ Arv Z h r1 r2 .byte 4 [(.int (bH x1)), (.int (bL x1)), (.int (bH x2)), (.int (bL x2))] iZ ∧ v = some (.ref r1)) := by
  refine CtrN.intro (L0 := #[vr a1, vi 0, vi 2, un, un, un]) (plainFor_of_name pn5) O0 (own_entry rfl) ?_
  intro p e s m below meth c T0 hy hml hret hlk hnm W0
  refine o_iloadN W0 1 (hb hy d12_0) rfl rfl ?_
  refine o_newP W0 (aty := .byte) (w25 hw) tri (by decide) (cap := 2) (by decide) (by decide) 3 (hb hy d12_1) rfl (cells' := 1) (slots' := 2) rfl rfl (by decide) (by decide) (vs := [iZ, iZ]) (dv := iZ) rfl rfl ?_
  intro b1 T1 h1 k1 W1 E1 ge1 gz1 gb1 V1
  refine o_astoreN W1 (L' := #[vr a1, vi 0, vi 2, vr b1, un, un]) 4 (hb hy d12_3) rfl rfl rfl <| o_aloadN W1 5 (hb hy d12_4) rfl rfl rfl <| o_iloadN W1 6 (hb hy d12_5) rfl rfl <| o_aloadN W1 7 (hb hy d12_6) rfl rfl rfl <| o_iconst W1 (v := 0) 8 (hb hy d12_7) rfl rfl <| o_iloadN W1 9 (hb hy d12_8) rfl rfl ?_
  have c2 := (z1.ext E1)
  refine o_staticC W1 (w62 hw) (w63 hw) (w60 hw) (w64 hw) (by decide) (rm81 l hw a1 b1 z0 x1 x2 k1 h1 W1.old c2 hu3 hc4 hc5 V1 gz1 (own_ne z1.lt ge1) hu6 hc7 hc8) 0 1 2 (by decide) (by rw [hml]; rfl) (lenOf pd9 rfl) [] rfl rfl 12 (hb hy d12_9) rfl rfl rfl (allS ⟨gz1, (Or.inr gb1)⟩ all0) tri ?_
  intro v9 T9 h9 lo9 W9 K9 q9
  obtain ⟨P9_0, rfl⟩ := q9.2.2
  show Gl _ _ _ _ _ _ _ _ [(.int 1)]
  refine o_istore W9 (L' := #[vr a1, vi 0, vi 2, vr b1, vi 1, un]) 14 (hb hy d12_12) rfl rfl <| o_iload W9 16 (hb hy d12_14) rfl rfl <| o_iloadN W9 17 (hb hy d12_16) rfl rfl <| o_icmpN W9 20 (hb hy d12_17) (XT.ii_eq_f (by decide)) rfl <| o_aloadN W9 21 (hb hy d12_20) rfl rfl rfl <| o_iloadN W9 22 (hb hy d12_21) rfl rfl ?_
  refine o_iloadN W9 23 (hb hy d12_22) rfl rfl ?_
  have c10 := (c2.keep K9 (ninS (own_ne z1.lt ge1) nin0))
  refine o_staticC W9 (w94 hw) (w95 hw) (w60 hw) (w96 hw) (by decide) (rm84 l hw a1 z0 x1 x2 h9 W9.old c10 z2 z3 z4) 0 2 6 (by decide) (by rw [hml]; rfl) (lenOf pd10 rfl) [] rfl rfl 26 (hb hy d12_23) rfl rfl rfl all0 tri ?_
  intro v11 T11 h11 lo11 W11 K11 q11
  obtain ⟨r1_11, r2_11, P11_0, P11_1, rfl⟩ := q11.2.2
  show Gl _ _ _ _ _ _ _ _ [(.ref r1_11)]
  refine o_astore W11 (L' := #[vr a1, vi 0, vi 2, vr b1, vi 1, vr r1_11]) 28 (hb hy d12_26) rfl rfl rfl <| o_aload W11 30 (hb hy d12_28) rfl rfl rfl <| o_iload W11 32 (hb hy d12_30) rfl rfl ?_
  refine o_staticC W11 (w110 hw) (w111 hw) (w60 hw) (w112 hw) (by decide) (rm85 l hw r1_11 r2_11 x1 x2 h11 W11.old z2 P11_1 z3 z4 hu6 hc7) 0 2 6 (by decide) (by rw [hml]; rfl) (lenOf pd17 rfl) [] rfl rfl 35 (hb hy d12_32) rfl rfl rfl all0 tri ?_
  intro v12 T12 h12 lo12 W12 K12 q12
  obtain rfl := q12.2.2
  show Gl _ _ _ _ _ _ _ _ [(.int x2)]
  refine o_sipush W12 (v := 255) 38 (hb hy d12_35) (by decide) rfl <| o_icmpY W12 54 (hb hy d12_38) (XT.ii_gt_t hc8) (by decide) rfl <| o_aload W12 56 (hb hy d12_54) rfl rfl rfl ?_
  have c13 := (P11_1.keep K12 nin0)
  exact o_retA W12 hlk (v := (.ref r1_11)) hret rfl rfl (hb hy d12_56) (by decide) (by decide) ⟨r1_11, r2_11, (Nat.le_trans W9.keep.1 P11_0), c13, rfl⟩
theorem rm87 (l : Launch) {Z a0} (hw : HW Z a0) (a1 : Addr) (z0 : ClassId) (x1 x2 : Int32) (h0 : Heap) (O0 : Old Z Z.heap.size h0) (z1 : Arv Z h0 a1 z0 .byte 4 [(.int (bH x1)), (.int (bL x1)), (.int (bH x2)), (.int (bL x2))] iZ) :
    CtrN l Z mn18 jdk_52_method_15_code 2 (some .byte) [] (⟨0, 0, 0, 0⟩ : Room) #[(.ref a1), (.int 2)] h0 [] (fun v h => v = some (.int 1)) := by
  refine CtrN.intro (L0 := #[vr a1, vi 2]) (plainFor_of_name pn5) O0 (own_entry rfl) ?_
  intro p e s m below meth c T0 hy hml hret hlk hnm W0
  refine o_iloadN W0 1 (hb hy d14_0) rfl rfl <| o_aloadN W0 2 (hb hy d14_1) rfl rfl rfl <| o_len W0 z1 3 (hb hy d14_2) rfl <| o_isub W0 (v := (-2 : Int32)) 4 (hb hy d14_3) (by decide) rfl <| o_bipush W0 (v := 31) 6 (hb hy d14_4) (by decide) rfl <| o_iushr W0 (v := 1) 7 (hb hy d14_6) (by decide) rfl ?_
  refine o_i2b W0 (v := 1) 8 (hb hy d14_7) (by decide) rfl ?_
  exact o_retN W0 hlk (t := .byte) hret (by simp) (z' := (1 : Int32)) (by decide) (hb hy d14_8) (by decide) (by decide) rfl
theorem rm88 (l : Launch) {Z a0} (hw : HW Z a0) (gCS : Int32) (a1 a2 : Addr) (z0 : ClassId) (x1 x2 : Int32) (h0 : Heap) (O0 : Old Z Z.heap.size h0) (SgCS : Sta Z Z.heap s1 s5 "Z" (.int gCS)) (NgCS : ¬ (gCS = (0 : Int32))) (z1 : Arv Z h0 a2 z0 .char 2 [(.int x1), (.int x2)] iZ) (hu3 : own_cp x1) (hc4 : x1 < (65536 : Int32)) (hc5 : ¬ ((255 : Int32) < x1)) (hu6 : own_cp x2) (hc7 : x2 < (65536 : Int32)) (hc8 : (255 : Int32) < x2) (z2 : Sta Z Z.heap s0 s2 "Z" (.int 1)) (z3 : Sta Z Z.heap s0 s3 "I" iZ) (z4 : Sta Z Z.heap s0 s4 "I" (.int 8)) (z5 : Exa Z h0 a1 s1) (z6 : Fld Z h0 a1 s1 "coder" "B" iZ) (z7 : Z.heap.size ≤ a1) (z8 : Fld Z h0 a1 s1 "value" "[B" .null) :
    CtrN l Z mn8 jdk_42_method_149_code 6 none [] (⟨4, 2, 6, 57⟩ : Room) #[(.ref a1), (.ref a2), iZ, (.int 2), .null] h0 [a1] (fun v h => ∃ r1 : Addr, ∃ r2 : ClassId, h0.size ≤ r1 ∧ Fld Z h a1 s1 "coder" "B" (.int 1) ∧ Fld Z h a1 s1 "value" "[B" (.ref r1) ∧ Arv Z h r1 r2 .byte 4 [(.int (bH x1)), (.int (bL x1)), (.int (bH x2)), (.int (bL x2))] iZ ∧ v = none) := by
  refine CtrN.intro (L0 := #[vr a1, vr a2, vi 0, vi 2, .val .null, un]) (plainFor_of_name pn2) O0 (own_entry rfl) ?_
  intro p e s m below meth c T0 hy hml hret hlk hnm W0
  refine o_aloadN W0 1 (hb hy d4_0) rfl rfl rfl ?_
  refine o_initO W0 (w21 hw) (w22 hw) (w23 hw) (by rw [hml]; rfl) 4 (hb hy d4_1) rfl (by decide) 0 (by exact Nat.le_of_eq rfl) (by decide) ?_
  intro T1 W1
  refine o_iloadN W1 5 (hb hy d4_4) rfl rfl <| o_ifY W1 27 (hb hy d4_5) (XT.i0_ne_t (by decide)) (by decide) rfl ?_
  refine o_getS W1 (w49 hw) Via.refl (SgCS.ext W1.ox) 30 (hb hy d4_27) rfl ?_
  intro T2 W2
  refine o_ifN W2 33 (hb hy d4_30) (XT.i0_eq_f NgCS) rfl <| o_aloadN W2 34 (hb hy d4_33) rfl rfl rfl <| o_iloadN W2 35 (hb hy d4_34) rfl rfl <| o_iloadN W2 36 (hb hy d4_35) rfl rfl ?_
  refine o_staticC W2 (w58 hw) (w59 hw) (w60 hw) (w61 hw) (by decide) (rm86 l hw a2 z0 x1 x2 h0 W2.old z1 hu3 hc4 hc5 hu6 hc7 hc8 z2 z3 z4) 0 2 6 (by decide) (by rw [hml]; rfl) (lenOf pd10 rfl) [] rfl rfl 39 (hb hy d4_36) rfl rfl rfl all0 tri ?_
  intro v9 T9 h9 lo9 W9 K9 q9
  obtain ⟨r1_9, r2_9, P9_0, P9_1, rfl⟩ := q9.2.2
  show Gl _ _ _ _ _ _ _ _ [(.ref r1_9)]
  refine o_astore W9 (L' := #[vr a1, vr a2, vi 0, vi 2, .val .null, vr r1_9]) 41 (hb hy d4_39) rfl rfl rfl <| o_aloadN W9 42 (hb hy d4_41) rfl rfl rfl <| o_aload W9 44 (hb hy d4_42) rfl rfl rfl <| o_iloadN W9 45 (hb hy d4_44) rfl rfl ?_
  refine o_staticC W9 (w65 hw) (w66 hw) (w60 hw) (w67 hw) (by decide) (rm87 l hw r1_9 r2_9 x1 x2 h9 W9.old P9_1) 1 2 6 (by decide) (by rw [hml]; rfl) (lenOf pd11 rfl) [(.ref a1)] rfl rfl 48 (hb hy d4_45) rfl rfl rfl all0 tri ?_
  intro v10 T10 h10 lo10 W10 K10 q10
  obtain rfl := q10.2.2
  show Gl _ _ _ _ _ _ _ _ [(.int 1), (.ref a1)]
  have c11 := ((z5.keep K9).keep K10)
  have c12 := ((z6.keep K9 nin0).keep K10 nin0)
  refine o_putF W10 (w31 hw) Via.refl c12 c11 (Or.inr ⟨(w27 hw), rfl, hnm⟩) (w11 hw) (ty := .byte) (v' := (.int 1)) (by decide) rfl (by decide) z7 m0 tri 51 (hb hy d4_48) rfl ?_
  intro T13 h13 lo13 W13 R13
  have F13 := c12.same R13
  refine o_aloadN W13 52 (hb hy d4_51) rfl rfl rfl <| o_aload W13 54 (hb hy d4_52) rfl rfl rfl ?_
  have c14 := (c11.wr R13)
  have c15 := (((z8.keep K9 nin0).keep K10 nin0).other R13 (Or.inr (slot_ne (Or.inr (w26 hw)) (Or.inr (w27 hw)) (by decide) (t := (.array .byte)) (t' := .byte) (by decide) (by decide))))
  refine o_putF W13 (w30 hw) Via.refl c15 c14 (Or.inr ⟨(w26 hw), rfl, hnm⟩) (w11 hw) (ty := (.array .byte)) (v' := (.ref r1_9)) (by decide) rfl rfl z7 m0 tri 57 (hb hy d4_54) rfl ?_
  intro T16 h16 lo16 W16 R16
  have F16 := c15.same R16
  have c17 := (F13.other R16 (Or.inr (slot_ne (Or.inr (w27 hw)) (Or.inr (w26 hw)) (by decide) (t := .byte) (t' := (.array .byte)) (by decide) (by decide))))
  have c18 := (c14.wr R16)
  have c19 := (((P9_1.keep K10 nin0).other R13 (own_ne' z5.lt P9_0)).other R16 (own_ne' z5.lt P9_0))
  exact o_ret0 W16 hlk hret (hb hy d4_57) (by decide) (by decide) ⟨r1_9, r2_9, (Nat.le_trans W2.keep.1 P9_0), c17, F16, c19, rfl⟩
theorem rm89 (l : Launch) {Z a0} (hw : HW Z a0) (gCS : Int32) (a1 a2 : Addr) (z0 : ClassId) (x1 x2 : Int32) (h0 : Heap) (O0 : Old Z Z.heap.size h0) (z1 : Arv Z h0 a2 z0 .char 2 [(.int x1), (.int x2)] iZ) (SgCS : Sta Z Z.heap s1 s5 "Z" (.int gCS)) (NgCS : ¬ (gCS = (0 : Int32))) (hu1 : own_cp x1) (hc2 : x1 < (65536 : Int32)) (hc3 : ¬ ((255 : Int32) < x1)) (hu4 : own_cp x2) (hc5 : x2 < (65536 : Int32)) (hc6 : (255 : Int32) < x2) (z2 : Sta Z Z.heap s0 s2 "Z" (.int 1)) (z3 : Sta Z Z.heap s0 s3 "I" iZ) (z4 : Sta Z Z.heap s0 s4 "I" (.int 8)) (z5 : Exa Z h0 a1 s1) (z6 : Fld Z h0 a1 s1 "coder" "B" iZ) (z7 : Fld Z h0 a1 s1 "value" "[B" .null) (z8 : Z.heap.size ≤ a1) :
    CtrN l Z mn9 jdk_42_method_3_code 2 none [] (⟨5, 2, 6, 74⟩ : Room) #[(.ref a1), (.ref a2)] h0 [a1] (fun v h => ∃ r1 : Addr, ∃ r2 : ClassId, h0.size ≤ r1 ∧ Fld Z h a1 s1 "coder" "B" (.int 1) ∧ Fld Z h a1 s1 "value" "[B" (.ref r1) ∧ Arv Z h r1 r2 .byte 4 [(.int (bH x1)), (.int (bL x1)), (.int (bH x2)), (.int (bL x2))] iZ ∧ v = none) := by
  refine CtrN.intro (L0 := #[vr a1, vr a2]) (plainFor_of_name pn2) O0 (own_entry rfl) ?_
  intro p e s m below meth c T0 hy hml hret hlk hnm W0
  refine o_aloadN W0 1 (hb hy d3_0) rfl rfl rfl <| o_aloadN W0 2 (hb hy d3_1) rfl rfl rfl <| o_iconst W0 (v := 0) 3 (hb hy d3_2) rfl rfl <| o_aloadN W0 4 (hb hy d3_3) rfl rfl rfl <| o_len W0 z1 5 (hb hy d3_4) rfl ?_
  refine o_aconstNull W0 6 (hb hy d3_5) rfl ?_
  refine o_specialC W0 rfl (w17 hw) (w18 hw) (w20 hw) (by decide) (w12 hw) (rm88 l hw gCS a1 a2 z0 x1 x2 h0 W0.old SgCS NgCS z1 hu1 hc2 hc3 hu4 hc5 hc6 z2 z3 z4 z5 z6 z8 z7) 0 2 6 (by decide) (by rw [hml]; rfl) (lenOf pd1 rfl) [] rfl rfl 9 (hb hy d3_6) rfl rfl rfl (allS ⟨z8, m0⟩ all0) tri ?_
  intro v7 T7 h7 lo7 W7 K7 q7
  obtain ⟨r1_7, r2_7, P7_0, P7_1, P7_2, P7_3, rfl⟩ := q7.2.2
  show Gl _ _ _ _ _ _ _ _ []
  have c8 := (z5.keep K7)
  exact o_ret0 W7 hlk hret (hb hy d3_9) (by decide) (by decide) ⟨r1_7, r2_7, (Nat.le_trans W0.keep.1 P7_0), P7_1, P7_2, P7_3, rfl⟩
theorem rm90 (l : Launch) {Z a0} (hw : HW Z a0) (gCS : Int32) (a1 a2 : Addr) (z0 : ClassId) (x1 x2 : Int32) (h0 : Heap) (O0 : Old Z Z.heap.size h0) (z1 : Fld Z h0 a1 s1 "value" "[B" (.ref a2)) (z2 : Arv Z h0 a2 z0 .byte 4 [(.int (bH x1)), (.int (bL x1)), (.int (bH x2)), (.int (bL x2))] iZ) (z3 : Exa Z h0 a1 s1) (SgCS : Sta Z Z.heap s1 s5 "Z" (.int gCS)) (NgCS : ¬ (gCS = (0 : Int32))) (z4 : Fld Z h0 a1 s1 "coder" "B" (.int 1)) :
    CtrN l Z mn0 jdk_42_method_54_code 1 (some .int) [] (⟨1, 0, 0, 14⟩ : Room) #[(.ref a1)] h0 [] (fun v h => v = some (.int 2)) := by
  refine CtrN.intro (L0 := #[vr a1]) (plainFor_of_name pn2) O0 (own_entry rfl) ?_
  intro p e s m below meth c T0 hy hml hret hlk hnm W0
  refine o_aloadN W0 1 (hb hy d8_0) rfl rfl rfl ?_
  refine o_getF W0 (w30 hw) Via.refl z1 4 (hb hy d8_1) rfl ?_
  intro T1 W1
  refine o_len W1 z2 5 (hb hy d8_4) rfl <| o_aloadN W1 6 (hb hy d8_5) rfl rfl rfl ?_
  refine o_virtualC W1 (w44 hw) (w45 hw) (o_nf W1 rfl (w47 hw)) (w47 hw) (w46 hw) (by decide) z3 (w48 hw) (w12 hw) (rm37 l hw gCS a1 h0 W1.old SgCS NgCS z4) 1 0 0 (by decide) (by rw [hml]; rfl) (lenOf pd3 rfl) [(.int 4)] rfl rfl 9 (hb hy d8_6) rfl rfl rfl all0 tri ?_
  intro v2 T2 h2 lo2 W2 K2 q2
  obtain rfl := q2.2.2
  show Gl _ _ _ _ _ _ _ _ [(.int 1), (.int 4)]
  refine o_ishr W2 (v := 2) 10 (hb hy d8_9) (by decide) rfl ?_
  exact o_retI W2 hlk hret (hb hy d8_10) (by decide) (by decide) rfl
theorem rm91 (l : Launch) {Z a0} (hw : HW Z a0) (a1 : Addr) (z0 : ClassId) (x1 x2 : Int32) (h0 : Heap) (O0 : Old Z Z.heap.size h0) (z1 : Sta Z Z.heap s0 s2 "Z" (.int 1)) (z2 : Arv Z h0 a1 z0 .byte 4 [(.int (bH x1)), (.int (bL x1)), (.int (bH x2)), (.int (bL x2))] iZ) (z3 : Sta Z Z.heap s0 s3 "I" iZ) (z4 : Sta Z Z.heap s0 s4 "I" (.int 8)) (hu4 : own_cp x1) (hc5 : x1 < (65536 : Int32)) :
    CtrN l Z mn26 jdk_52_method_5_code 2 (some .char) [] (⟨0, 0, 0, 0⟩ : Room) #[(.ref a1), iZ] h0 [] (fun v h => v = some (.int x1)) := by
  refine CtrN.intro (L0 := #[vr a1, vi 0]) (plainFor_of_name pn5) O0 (own_entry rfl) ?_
  intro p e s m below meth c T0 hy hml hret hlk hnm W0
  refine o_getS W0 (w107 hw) Via.refl (z1.ext W0.ox) 3 (hb hy d25_0) rfl ?_
  intro T1 W1
  refine o_ifY W1 28 (hb hy d25_3) (XT.i0_ne_t (by decide)) (by decide) rfl <| o_iloadN W1 29 (hb hy d25_28) rfl rfl <| o_iconst W1 (v := 1) 30 (hb hy d25_29) rfl rfl <| o_ishl W1 (v := 0) 31 (hb hy d25_30) (by decide) rfl <| o_istoreN W1 (L' := #[vr a1, vi 0]) 32 (hb hy d25_31) rfl rfl <| o_aloadN W1 33 (hb hy d25_32) rfl rfl rfl ?_
  refine o_iloadN W1 34 (hb hy d25_33) rfl rfl <| o_iinc W1 (v := 1) (L' := #[vr a1, vi 1]) 37 (hb hy d25_34) rfl (by decide) rfl rfl <| o_baload W1 z2 (x := (bH x1)) (i := 0) (by decide) (by decide) (by decide) rfl 38 (hb hy d25_37) rfl <| o_sipush W1 (v := 255) 41 (hb hy d25_38) (by decide) rfl <| o_iand W1 (v := ((bH x1) &&& 255)) 42 (hb hy d25_41) rfl rfl ?_
  refine o_getS W1 (w108 hw) Via.refl (z3.ext W1.ox) 45 (hb hy d25_42) rfl ?_
  intro T2 W2
  refine o_ishl W2 (v := (((bH x1) &&& 255) <<< ((0 : Int32) &&& 31))) 46 (hb hy d25_45) rfl rfl <| o_aloadN W2 47 (hb hy d25_46) rfl rfl rfl <| o_iloadN W2 48 (hb hy d25_47) rfl rfl <| o_baload W2 z2 (x := (bL x1)) (i := 1) (by decide) (by decide) (by decide) rfl 49 (hb hy d25_48) rfl <| o_sipush W2 (v := 255) 52 (hb hy d25_49) (by decide) rfl <| o_iand W2 (v := ((bL x1) &&& 255)) 53 (hb hy d25_52) rfl rfl ?_
  refine o_getS W2 (w109 hw) Via.refl (z4.ext W2.ox) 56 (hb hy d25_53) rfl ?_
  intro T3 W3
  refine o_ishl W3 (v := (((bL x1) &&& 255) <<< ((8 : Int32) &&& 31))) 57 (hb hy d25_56) rfl rfl <| o_ior W3 (v := ((((bH x1) &&& 255) <<< ((0 : Int32) &&& 31)) ||| (((bL x1) &&& 255) <<< ((8 : Int32) &&& 31)))) 58 (hb hy d25_57) rfl rfl <| o_i2c W3 (v := x1) 59 (hb hy d25_58) (own_join (own_cpc hu4 hc5)) rfl ?_
  exact o_retN W3 hlk (t := .char) hret (by simp) (z' := x1) (own_i2cc (own_cpc hu4 hc5)) (hb hy d25_59) (by decide) (by decide) rfl
theorem rm92 (l : Launch) {Z a0} (hw : HW Z a0) (a1 : Addr) (z0 : ClassId) (x1 x2 : Int32) (h0 : Heap) (O0 : Old Z Z.heap.size h0) (z1 : Sta Z Z.heap s0 s2 "Z" (.int 1)) (z2 : Arv Z h0 a1 z0 .byte 4 [(.int (bH x1)), (.int (bL x1)), (.int (bH x2)), (.int (bL x2))] iZ) (z3 : Sta Z Z.heap s0 s3 "I" iZ) (z4 : Sta Z Z.heap s0 s4 "I" (.int 8)) (hu2 : own_cp x1) (hc3 : x1 < (65536 : Int32)) (hu6 : own_nh x1) :
    CtrN l Z mn27 jdk_52_method_7_code 6 (some .int) [] (⟨1, 0, 0, 13⟩ : Room) #[(.ref a1), iZ, (.int 2), iZ] h0 [] (fun v h => v = some (.int x1)) := by
  refine CtrN.intro (L0 := #[vr a1, vi 0, vi 2, vi 0, un, un]) (plainFor_of_name pn5) O0 (own_entry rfl) ?_
  intro p e s m below meth c T0 hy hml hret hlk hnm W0
  refine o_getS W0 (w107 hw) Via.refl (z1.ext W0.ox) 3 (hb hy d28_0) rfl ?_
  intro T1 W1
  refine o_ifY W1 19 (hb hy d28_3) (XT.i0_ne_t (by decide)) (by decide) rfl <| o_iloadN W1 20 (hb hy d28_19) rfl rfl <| o_ifY W1 28 (hb hy d28_20) (XT.i0_eq_t (by decide)) (by decide) rfl <| o_aloadN W1 29 (hb hy d28_28) rfl rfl rfl <| o_iloadN W1 30 (hb hy d28_29) rfl rfl ?_
  refine o_staticC W1 (w110 hw) (w111 hw) (w60 hw) (w112 hw) (by decide) (rm91 l hw a1 z0 x1 x2 h0 W1.old z1 z2 z3 z4 hu2 hc3) 0 0 0 (by decide) (by rw [hml]; rfl) (lenOf pd17 rfl) [] rfl rfl 33 (hb hy d28_30) rfl rfl rfl all0 tri ?_
  intro v4 T4 h4 lo4 W4 K4 q4
  obtain rfl := q4.2.2
  show Gl _ _ _ _ _ _ _ _ [(.int x1)]
  refine o_istore W4 (L' := #[vr a1, vi 0, vi 2, vi 0, vi x1, un]) 35 (hb hy d28_33) rfl rfl <| o_iload W4 37 (hb hy d28_35) rfl rfl ?_
  refine o_staticC W4 (w124 hw) (w125 hw) (w115 hw) (w126 hw) (by decide) (rm4 l hw x1 h4 W4.old ) 0 0 0 (by decide) (by rw [hml]; rfl) (lenOf pd18 rfl) [] rfl rfl 40 (hb hy d28_37) rfl rfl rfl all0 tri ?_
  intro v5 T5 h5 lo5 W5 K5 q5
  obtain rfl := q5.2.2
  show Gl _ _ _ _ _ _ _ _ [(.int (own_hs x1))]
  refine o_ifY W5 83 (hb hy d28_40) (XT.i0_eq_t (own_hsN hu6)) (by decide) rfl <| o_iload W5 85 (hb hy d28_83) rfl rfl ?_
  exact o_retI W5 hlk hret (hb hy d28_85) (by decide) (by decide) rfl
theorem rm93 (l : Launch) {Z a0} (hw : HW Z a0) (a1 : Addr) (z0 : ClassId) (x1 x2 : Int32) (h0 : Heap) (O0 : Old Z Z.heap.size h0) (z1 : Sta Z Z.heap s0 s2 "Z" (.int 1)) (z2 : Arv Z h0 a1 z0 .byte 4 [(.int (bH x1)), (.int (bL x1)), (.int (bH x2)), (.int (bL x2))] iZ) (z3 : Sta Z Z.heap s0 s3 "I" iZ) (z4 : Sta Z Z.heap s0 s4 "I" (.int 8)) (hu1 : own_cp x1) (hc2 : x1 < (65536 : Int32)) (hu3 : own_nh x1) :
    CtrN l Z mn28 jdk_52_method_8_code 3 (some .int) [] (⟨2, 0, 0, 30⟩ : Room) #[(.ref a1), iZ, (.int 2)] h0 [] (fun v h => v = some (.int x1)) := by
  refine CtrN.intro (L0 := #[vr a1, vi 0, vi 2]) (plainFor_of_name pn5) O0 (own_entry rfl) ?_
  intro p e s m below meth c T0 hy hml hret hlk hnm W0
  refine o_aloadN W0 1 (hb hy d27_0) rfl rfl rfl <| o_iloadN W0 2 (hb hy d27_1) rfl rfl <| o_iloadN W0 3 (hb hy d27_2) rfl rfl <| o_iconst W0 (v := 0) 4 (hb hy d27_3) rfl rfl ?_
  refine o_staticC W0 (w121 hw) (w122 hw) (w60 hw) (w123 hw) (by decide) (rm92 l hw a1 z0 x1 x2 h0 W0.old z1 z2 z3 z4 hu1 hc2 hu3) 0 0 0 (by decide) (by rw [hml]; rfl) (lenOf pd19 rfl) [] rfl rfl 7 (hb hy d27_4) rfl rfl rfl all0 tri ?_
  intro v4 T4 h4 lo4 W4 K4 q4
  obtain rfl := q4.2.2
  show Gl _ _ _ _ _ _ _ _ [(.int x1)]
  exact o_retI W4 hlk hret (hb hy d27_7) (by decide) (by decide) rfl
theorem rm94 (l : Launch) {Z a0} (hw : HW Z a0) (gCS : Int32) (gF : Value) (a1 a2 : Addr) (z0 : ClassId) (x1 x2 : Int32) (h0 : Heap) (O0 : Old Z Z.heap.size h0) (z1 : Exa Z h0 a1 s1) (SgCS : Sta Z Z.heap s1 s5 "Z" (.int gCS)) (NgCS : ¬ (gCS = (0 : Int32))) (z2 : Fld Z h0 a1 s1 "coder" "B" (.int 1)) (z3 : Fld Z h0 a1 s1 "value" "[B" (.ref a2)) (z4 : Arv Z h0 a2 z0 .byte 4 [(.int (bH x1)), (.int (bL x1)), (.int (bH x2)), (.int (bL x2))] iZ) (SgF : Sta Z Z.heap s6 s7 s8 gF) (NgF : gF.isRef = true) (z5 : Sta Z Z.heap s0 s2 "Z" (.int 1)) (z6 : Sta Z Z.heap s0 s3 "I" iZ) (z7 : Sta Z Z.heap s0 s4 "I" (.int 8)) (hu9 : own_cp x1) (hc10 : x1 < (65536 : Int32)) (hu11 : own_nh x1) :
    CtrN l Z mn1 jdk_42_method_57_code 3 (some .int) [] (⟨6, 0, 0, 90⟩ : Room) #[(.ref a1), iZ] h0 [] (fun v h => v = some (.int x1)) := by
  refine CtrN.intro (L0 := #[vr a1, vi 0, un]) (plainFor_of_name pn2) O0 (own_entry rfl) ?_
  intro p e s m below meth c T0 hy hml hret hlk hnm W0
  refine o_aloadN W0 1 (hb hy d15_0) rfl rfl rfl ?_
  refine o_virtualC W0 (w73 hw) (w74 hw) (o_nf W0 rfl (w76 hw)) (w76 hw) (w75 hw) (by decide) z1 (w77 hw) (w12 hw) (rm39 l hw gCS a1 h0 W0.old SgCS NgCS z2) 0 0 0 (by decide) (by rw [hml]; rfl) (lenOf pd12 rfl) [] rfl rfl 4 (hb hy d15_1) rfl rfl rfl all0 tri ?_
  intro v1 T1 h1 lo1 W1 K1 q1
  obtain rfl := q1.2.2
  show Gl _ _ _ _ _ _ _ _ [iZ]
  refine o_ifY W1 27 (hb hy d15_4) (XT.i0_eq_t (by decide)) (by decide) rfl <| o_aloadN W1 28 (hb hy d15_27) rfl rfl rfl ?_
  have c2 := (z3.keep K1 nin0)
  refine o_getF W1 (w30 hw) Via.refl c2 31 (hb hy d15_28) rfl ?_
  intro T3 W3
  have c4 := (z4.keep K1 nin0)
  refine o_len W3 c4 32 (hb hy d15_31) rfl <| o_iconst W3 (v := 1) 33 (hb hy d15_32) rfl rfl <| o_ishr W3 (v := 2) 34 (hb hy d15_33) (by decide) rfl <| o_istoreN W3 (L' := #[vr a1, vi 0, vi 2]) 35 (hb hy d15_34) rfl rfl <| o_iloadN W3 36 (hb hy d15_35) rfl rfl <| o_iloadN W3 37 (hb hy d15_36) rfl rfl ?_
  refine o_staticC W3 (w78 hw) (w79 hw) (w12 hw) (w80 hw) (by decide) (rm59 l hw gF h1 W3.old SgF NgF) 0 0 0 (by decide) (by rw [hml]; rfl) (lenOf pd14 rfl) [] rfl rfl 40 (hb hy d15_37) rfl rfl rfl all0 tri ?_
  intro v5 T5 h5 lo5 W5 K5 q5
  obtain rfl := q5.2.2
  show Gl _ _ _ _ _ _ _ _ []
  refine o_aloadN W5 41 (hb hy d15_40) rfl rfl rfl ?_
  have c6 := (c2.keep K5 nin0)
  refine o_getF W5 (w30 hw) Via.refl c6 44 (hb hy d15_41) rfl ?_
  intro T7 W7
  refine o_iloadN W7 45 (hb hy d15_44) rfl rfl <| o_iloadN W7 46 (hb hy d15_45) rfl rfl ?_
  have c8 := (c4.keep K5 nin0)
  refine o_staticC W7 (w118 hw) (w119 hw) (w60 hw) (w120 hw) (by decide) (rm93 l hw a2 z0 x1 x2 h5 W7.old z5 c8 z6 z7 hu9 hc10 hu11) 0 0 0 (by decide) (by rw [hml]; rfl) (lenOf pd20 rfl) [] rfl rfl 49 (hb hy d15_46) rfl rfl rfl all0 tri ?_
  intro v12 T12 h12 lo12 W12 K12 q12
  obtain rfl := q12.2.2
  show Gl _ _ _ _ _ _ _ _ [(.int x1)]
  exact o_retI W12 hlk hret (hb hy d15_49) (by decide) (by decide) rfl
theorem rm95 (l : Launch) {Z a0} (hw : HW Z a0) (a1 : Addr) (z0 : ClassId) (x1 x2 : Int32) (h0 : Heap) (O0 : Old Z Z.heap.size h0) (z1 : Sta Z Z.heap s0 s2 "Z" (.int 1)) (z2 : Arv Z h0 a1 z0 .byte 4 [(.int (bH x1)), (.int (bL x1)), (.int (bH x2)), (.int (bL x2))] iZ) (z3 : Sta Z Z.heap s0 s3 "I" iZ) (z4 : Sta Z Z.heap s0 s4 "I" (.int 8)) (hu2 : own_cp x2) (hc3 : x2 < (65536 : Int32)) (hc6 : (own_hs x2) = (0 : Int32)) :
    CtrN l Z mn27 jdk_52_method_7_code 6 (some .int) [] (⟨1, 0, 0, 13⟩ : Room) #[(.ref a1), (.int 1), (.int 2), iZ] h0 [] (fun v h => v = some (.int x2)) := by
  refine CtrN.intro (L0 := #[vr a1, vi 1, vi 2, vi 0, un, un]) (plainFor_of_name pn5) O0 (own_entry rfl) ?_
  intro p e s m below meth c T0 hy hml hret hlk hnm W0
  refine o_getS W0 (w107 hw) Via.refl (z1.ext W0.ox) 3 (hb hy d28_0) rfl ?_
  intro T1 W1
  refine o_ifY W1 19 (hb hy d28_3) (XT.i0_ne_t (by decide)) (by decide) rfl <| o_iloadN W1 20 (hb hy d28_19) rfl rfl <| o_ifY W1 28 (hb hy d28_20) (XT.i0_eq_t (by decide)) (by decide) rfl <| o_aloadN W1 29 (hb hy d28_28) rfl rfl rfl <| o_iloadN W1 30 (hb hy d28_29) rfl rfl ?_
  refine o_staticC W1 (w110 hw) (w111 hw) (w60 hw) (w112 hw) (by decide) (rm85 l hw a1 z0 x1 x2 h0 W1.old z1 z2 z3 z4 hu2 hc3) 0 0 0 (by decide) (by rw [hml]; rfl) (lenOf pd17 rfl) [] rfl rfl 33 (hb hy d28_30) rfl rfl rfl all0 tri ?_
  intro v4 T4 h4 lo4 W4 K4 q4
  obtain rfl := q4.2.2
  show Gl _ _ _ _ _ _ _ _ [(.int x2)]
  refine o_istore W4 (L' := #[vr a1, vi 1, vi 2, vi 0, vi x2, un]) 35 (hb hy d28_33) rfl rfl <| o_iload W4 37 (hb hy d28_35) rfl rfl ?_
  refine o_staticC W4 (w124 hw) (w125 hw) (w115 hw) (w126 hw) (by decide) (rm4 l hw x2 h4 W4.old ) 0 0 0 (by decide) (by rw [hml]; rfl) (lenOf pd18 rfl) [] rfl rfl 40 (hb hy d28_37) rfl rfl rfl all0 tri ?_
  intro v5 T5 h5 lo5 W5 K5 q5
  obtain rfl := q5.2.2
  show Gl _ _ _ _ _ _ _ _ [(.int (own_hs x2))]
  refine o_ifY W5 83 (hb hy d28_40) (XT.i0_eq_t hc6) (by decide) rfl <| o_iload W5 85 (hb hy d28_83) rfl rfl ?_
  exact o_retI W5 hlk hret (hb hy d28_85) (by decide) (by decide) rfl
theorem rm96 (l : Launch) {Z a0} (hw : HW Z a0) (a1 : Addr) (z0 : ClassId) (x1 x2 : Int32) (h0 : Heap) (O0 : Old Z Z.heap.size h0) (z1 : Sta Z Z.heap s0 s2 "Z" (.int 1)) (z2 : Arv Z h0 a1 z0 .byte 4 [(.int (bH x1)), (.int (bL x1)), (.int (bH x2)), (.int (bL x2))] iZ) (z3 : Sta Z Z.heap s0 s3 "I" iZ) (z4 : Sta Z Z.heap s0 s4 "I" (.int 8)) (hu1 : own_cp x2) (hc2 : x2 < (65536 : Int32)) (hc3 : (own_hs x2) = (0 : Int32)) :
    CtrN l Z mn28 jdk_52_method_8_code 3 (some .int) [] (⟨2, 0, 0, 30⟩ : Room) #[(.ref a1), (.int 1), (.int 2)] h0 [] (fun v h => v = some (.int x2)) := by
  refine CtrN.intro (L0 := #[vr a1, vi 1, vi 2]) (plainFor_of_name pn5) O0 (own_entry rfl) ?_
  intro p e s m below meth c T0 hy hml hret hlk hnm W0
  refine o_aloadN W0 1 (hb hy d27_0) rfl rfl rfl <| o_iloadN W0 2 (hb hy d27_1) rfl rfl <| o_iloadN W0 3 (hb hy d27_2) rfl rfl <| o_iconst W0 (v := 0) 4 (hb hy d27_3) rfl rfl ?_
  refine o_staticC W0 (w121 hw) (w122 hw) (w60 hw) (w123 hw) (by decide) (rm95 l hw a1 z0 x1 x2 h0 W0.old z1 z2 z3 z4 hu1 hc2 hc3) 0 0 0 (by decide) (by rw [hml]; rfl) (lenOf pd19 rfl) [] rfl rfl 7 (hb hy d27_4) rfl rfl rfl all0 tri ?_
  intro v4 T4 h4 lo4 W4 K4 q4
  obtain rfl := q4.2.2
  show Gl _ _ _ _ _ _ _ _ [(.int x2)]
  exact o_retI W4 hlk hret (hb hy d27_7) (by decide) (by decide) rfl
theorem rm97 (l : Launch) {Z a0} (hw : HW Z a0) (a1 : Addr) (z0 : ClassId) (x1 x2 : Int32) (h0 : Heap) (O0 : Old Z Z.heap.size h0) (z1 : Sta Z Z.heap s0 s2 "Z" (.int 1)) (z2 : Arv Z h0 a1 z0 .byte 4 [(.int (bH x1)), (.int (bL x1)), (.int (bH x2)), (.int (bL x2))] iZ) (z3 : Sta Z Z.heap s0 s3 "I" iZ) (z4 : Sta Z Z.heap s0 s4 "I" (.int 8)) (hu2 : own_cp x2) (hc3 : x2 < (65536 : Int32)) (hc6 : ¬ ((own_hs x2) = (0 : Int32))) :
    CtrN l Z mn27 jdk_52_method_7_code 6 (some .int) [] (⟨1, 0, 0, 13⟩ : Room) #[(.ref a1), (.int 1), (.int 2), iZ] h0 [] (fun v h => v = some (.int x2)) := by
  refine CtrN.intro (L0 := #[vr a1, vi 1, vi 2, vi 0, un, un]) (plainFor_of_name pn5) O0 (own_entry rfl) ?_
  intro p e s m below meth c T0 hy hml hret hlk hnm W0
  refine o_getS W0 (w107 hw) Via.refl (z1.ext W0.ox) 3 (hb hy d28_0) rfl ?_
  intro T1 W1
  refine o_ifY W1 19 (hb hy d28_3) (XT.i0_ne_t (by decide)) (by decide) rfl <| o_iloadN W1 20 (hb hy d28_19) rfl rfl <| o_ifY W1 28 (hb hy d28_20) (XT.i0_eq_t (by decide)) (by decide) rfl <| o_aloadN W1 29 (hb hy d28_28) rfl rfl rfl <| o_iloadN W1 30 (hb hy d28_29) rfl rfl ?_
  refine o_staticC W1 (w110 hw) (w111 hw) (w60 hw) (w112 hw) (by decide) (rm85 l hw a1 z0 x1 x2 h0 W1.old z1 z2 z3 z4 hu2 hc3) 0 0 0 (by decide) (by rw [hml]; rfl) (lenOf pd17 rfl) [] rfl rfl 33 (hb hy d28_30) rfl rfl rfl all0 tri ?_
  intro v4 T4 h4 lo4 W4 K4 q4
  obtain rfl := q4.2.2
  show Gl _ _ _ _ _ _ _ _ [(.int x2)]
  refine o_istore W4 (L' := #[vr a1, vi 1, vi 2, vi 0, vi x2, un]) 35 (hb hy d28_33) rfl rfl <| o_iload W4 37 (hb hy d28_35) rfl rfl ?_
  refine o_staticC W4 (w124 hw) (w125 hw) (w115 hw) (w126 hw) (by decide) (rm4 l hw x2 h4 W4.old ) 0 0 0 (by decide) (by rw [hml]; rfl) (lenOf pd18 rfl) [] rfl rfl 40 (hb hy d28_37) rfl rfl rfl all0 tri ?_
  intro v5 T5 h5 lo5 W5 K5 q5
  obtain rfl := q5.2.2
  show Gl _ _ _ _ _ _ _ _ [(.int (own_hs x2))]
  refine o_ifN W5 43 (hb hy d28_40) (XT.i0_eq_f hc6) rfl <| o_iinc W5 (v := 2) (L' := #[vr a1, vi 2, vi 2, vi 0, vi x2, un]) 46 (hb hy d28_43) rfl (by decide) rfl rfl <| o_iloadN W5 47 (hb hy d28_46) rfl rfl <| o_iloadN W5 48 (hb hy d28_47) rfl rfl <| o_icmpY W5 83 (hb hy d28_48) (XT.ii_ge_t (by decide)) (by decide) rfl <| o_iload W5 85 (hb hy d28_83) rfl rfl ?_
  exact o_retI W5 hlk hret (hb hy d28_85) (by decide) (by decide) rfl
theorem rm98 (l : Launch) {Z a0} (hw : HW Z a0) (a1 : Addr) (z0 : ClassId) (x1 x2 : Int32) (h0 : Heap) (O0 : Old Z Z.heap.size h0) (z1 : Sta Z Z.heap s0 s2 "Z" (.int 1)) (z2 : Arv Z h0 a1 z0 .byte 4 [(.int (bH x1)), (.int (bL x1)), (.int (bH x2)), (.int (bL x2))] iZ) (z3 : Sta Z Z.heap s0 s3 "I" iZ) (z4 : Sta Z Z.heap s0 s4 "I" (.int 8)) (hu1 : own_cp x2) (hc2 : x2 < (65536 : Int32)) (hc3 : ¬ ((own_hs x2) = (0 : Int32))) :
    CtrN l Z mn28 jdk_52_method_8_code 3 (some .int) [] (⟨2, 0, 0, 30⟩ : Room) #[(.ref a1), (.int 1), (.int 2)] h0 [] (fun v h => v = some (.int x2)) := by
  refine CtrN.intro (L0 := #[vr a1, vi 1, vi 2]) (plainFor_of_name pn5) O0 (own_entry rfl) ?_
  intro p e s m below meth c T0 hy hml hret hlk hnm W0
  refine o_aloadN W0 1 (hb hy d27_0) rfl rfl rfl <| o_iloadN W0 2 (hb hy d27_1) rfl rfl <| o_iloadN W0 3 (hb hy d27_2) rfl rfl <| o_iconst W0 (v := 0) 4 (hb hy d27_3) rfl rfl ?_
  refine o_staticC W0 (w121 hw) (w122 hw) (w60 hw) (w123 hw) (by decide) (rm97 l hw a1 z0 x1 x2 h0 W0.old z1 z2 z3 z4 hu1 hc2 hc3) 0 0 0 (by decide) (by rw [hml]; rfl) (lenOf pd19 rfl) [] rfl rfl 7 (hb hy d27_4) rfl rfl rfl all0 tri ?_
  intro v4 T4 h4 lo4 W4 K4 q4
  obtain rfl := q4.2.2
  show Gl _ _ _ _ _ _ _ _ [(.int x2)]
  exact o_retI W4 hlk hret (hb hy d27_7) (by decide) (by decide) rfl
theorem rm99 (l : Launch) {Z a0} (hw : HW Z a0) (gCS : Int32) (gF : Value) (a1 a2 : Addr) (z0 : ClassId) (x1 x2 : Int32) (h0 : Heap) (O0 : Old Z Z.heap.size h0) (z1 : Exa Z h0 a1 s1) (SgCS : Sta Z Z.heap s1 s5 "Z" (.int gCS)) (NgCS : ¬ (gCS = (0 : Int32))) (z2 : Fld Z h0 a1 s1 "coder" "B" (.int 1)) (z3 : Fld Z h0 a1 s1 "value" "[B" (.ref a2)) (z4 : Arv Z h0 a2 z0 .byte 4 [(.int (bH x1)), (.int (bL x1)), (.int (bH x2)), (.int (bL x2))] iZ) (SgF : Sta Z Z.heap s6 s7 s8 gF) (NgF : gF.isRef = true) (z5 : Sta Z Z.heap s0 s2 "Z" (.int 1)) (z6 : Sta Z Z.heap s0 s3 "I" iZ) (z7 : Sta Z Z.heap s0 s4 "I" (.int 8)) (hu9 : own_cp x2) (hc10 : x2 < (65536 : Int32)) (hc13 : x2 < (65536 : Int32)) (hc16 : x2 < (65536 : Int32)) :
    CtrN l Z mn1 jdk_42_method_57_code 3 (some .int) [] (⟨6, 0, 0, 90⟩ : Room) #[(.ref a1), (.int 1)] h0 [] (fun v h => v = some (.int x2)) := by
  refine CtrN.intro (L0 := #[vr a1, vi 1, un]) (plainFor_of_name pn2) O0 (own_entry rfl) ?_
  intro p e s m below meth c T0 hy hml hret hlk hnm W0
  refine o_aloadN W0 1 (hb hy d15_0) rfl rfl rfl ?_
  refine o_virtualC W0 (w73 hw) (w74 hw) (o_nf W0 rfl (w76 hw)) (w76 hw) (w75 hw) (by decide) z1 (w77 hw) (w12 hw) (rm39 l hw gCS a1 h0 W0.old SgCS NgCS z2) 0 0 0 (by decide) (by rw [hml]; rfl) (lenOf pd12 rfl) [] rfl rfl 4 (hb hy d15_1) rfl rfl rfl all0 tri ?_
  intro v1 T1 h1 lo1 W1 K1 q1
  obtain rfl := q1.2.2
  show Gl _ _ _ _ _ _ _ _ [iZ]
  refine o_ifY W1 27 (hb hy d15_4) (XT.i0_eq_t (by decide)) (by decide) rfl <| o_aloadN W1 28 (hb hy d15_27) rfl rfl rfl ?_
  have c2 := (z3.keep K1 nin0)
  refine o_getF W1 (w30 hw) Via.refl c2 31 (hb hy d15_28) rfl ?_
  intro T3 W3
  have c4 := (z4.keep K1 nin0)
  refine o_len W3 c4 32 (hb hy d15_31) rfl <| o_iconst W3 (v := 1) 33 (hb hy d15_32) rfl rfl <| o_ishr W3 (v := 2) 34 (hb hy d15_33) (by decide) rfl <| o_istoreN W3 (L' := #[vr a1, vi 1, vi 2]) 35 (hb hy d15_34) rfl rfl <| o_iloadN W3 36 (hb hy d15_35) rfl rfl <| o_iloadN W3 37 (hb hy d15_36) rfl rfl ?_
  refine o_staticC W3 (w78 hw) (w79 hw) (w12 hw) (w80 hw) (by decide) (rm79 l hw gF h1 W3.old SgF NgF) 0 0 0 (by decide) (by rw [hml]; rfl) (lenOf pd14 rfl) [] rfl rfl 40 (hb hy d15_37) rfl rfl rfl all0 tri ?_
  intro v5 T5 h5 lo5 W5 K5 q5
  obtain rfl := q5.2.2
  show Gl _ _ _ _ _ _ _ _ []
  refine o_aloadN W5 41 (hb hy d15_40) rfl rfl rfl ?_
  have c6 := (c2.keep K5 nin0)
  refine o_getF W5 (w30 hw) Via.refl c6 44 (hb hy d15_41) rfl ?_
  intro T7 W7
  refine o_iloadN W7 45 (hb hy d15_44) rfl rfl <| o_iloadN W7 46 (hb hy d15_45) rfl rfl ?_
  by_cases hq11 : (own_hs x2) = (0 : Int32)
  · have c12 := (c4.keep K5 nin0)
    refine o_staticC W7 (w118 hw) (w119 hw) (w60 hw) (w120 hw) (by decide) (rm96 l hw a2 z0 x1 x2 h5 W7.old z5 c12 z6 z7 hu9 hc13 hq11) 0 0 0 (by decide) (by rw [hml]; rfl) (lenOf pd20 rfl) [] rfl rfl 49 (hb hy d15_46) rfl rfl rfl all0 tri ?_
    intro v14 T14 h14 lo14 W14 K14 q14
    obtain rfl := q14.2.2
    show Gl _ _ _ _ _ _ _ _ [(.int x2)]
    exact o_retI W14 hlk hret (hb hy d15_49) (by decide) (by decide) rfl
  · have c15 := (c4.keep K5 nin0)
    refine o_staticC W7 (w118 hw) (w119 hw) (w60 hw) (w120 hw) (by decide) (rm98 l hw a2 z0 x1 x2 h5 W7.old z5 c15 z6 z7 hu9 hc16 hq11) 0 0 0 (by decide) (by rw [hml]; rfl) (lenOf pd20 rfl) [] rfl rfl 49 (hb hy d15_46) rfl rfl rfl all0 tri ?_
    intro v17 T17 h17 lo17 W17 K17 q17
    obtain rfl := q17.2.2
    show Gl _ _ _ _ _ _ _ _ [(.int x2)]
    exact o_retI W17 hlk hret (hb hy d15_49) (by decide) (by decide) rfl
theorem rm100 (l : Launch) {Z a0} (hw : HW Z a0) (a1 a2 : Addr) (z0 : ClassId) (x1 x2 : Int32) (h0 : Heap) (O0 : Old Z Z.heap.size h0) (z1 : Arv Z h0 a1 z0 .char 2 [(.int x1), (.int x2)] iZ) (hu1 : own_cp x1) (hc2 : x1 < (65536 : Int32)) (hc3 : (255 : Int32) < x1) :
    CtrN l Z mn16 jdk_52_method_21_code 7 (some .int) [] (⟨0, 0, 0, 0⟩ : Room) #[(.ref a1), iZ, (.ref a2), iZ, (.int 2)] h0 [] (fun v h => v = some iZ) := by
  refine CtrN.intro (L0 := #[vr a1, vi 0, vr a2, vi 0, vi 2, un, un]) (plainFor_of_name pn5) O0 (own_entry rfl) ?_
  intro p e s m below meth c T0 hy hml hret hlk hnm W0
  refine o_iconst W0 (v := 0) 1 (hb hy d13_0) rfl rfl <| o_istore W0 (L' := #[vr a1, vi 0, vr a2, vi 0, vi 2, vi 0, un]) 3 (hb hy d13_1) rfl rfl <| o_iload W0 5 (hb hy d13_3) rfl rfl <| o_iload W0 7 (hb hy d13_5) rfl rfl <| o_icmpN W0 10 (hb hy d13_7) (XT.ii_ge_f (by decide)) rfl <| o_aloadN W0 11 (hb hy d13_10) rfl rfl rfl ?_
  refine o_iloadN W0 12 (hb hy d13_11) rfl rfl <| o_caload W0 z1 (x := x1) (i := 0) (by decide) (by decide) (by decide) rfl 13 (hb hy d13_12) rfl <| o_istore W0 (L' := #[vr a1, vi 0, vr a2, vi 0, vi 2, vi 0, vi x1]) 15 (hb hy d13_13) rfl rfl <| o_iload W0 17 (hb hy d13_15) rfl rfl <| o_sipush W0 (v := 255) 20 (hb hy d13_17) (by decide) rfl <| o_icmpN W0 23 (hb hy d13_20) (XT.ii_le_f hc3) rfl ?_
  refine o_iload W0 25 (hb hy d13_23) rfl rfl ?_
  exact o_retI W0 hlk hret (hb hy d13_25) (by decide) (by decide) rfl
theorem rm101 (l : Launch) {Z a0} (hw : HW Z a0) (a1 : Addr) (z0 : ClassId) (x1 x2 : Int32) (h0 : Heap) (O0 : Old Z Z.heap.size h0) (z1 : Arv Z h0 a1 z0 .char 2 [(.int x1), (.int x2)] iZ) (hu3 : own_cp x1) (hc4 : x1 < (65536 : Int32)) (hc5 : (255 : Int32) < x1) (z2 : Sta Z Z.heap s0 s2 "Z" (.int 1)) (z3 : Sta Z Z.heap s0 s3 "I" iZ) (z4 : Sta Z Z.heap s0 s4 "I" (.int 8)) :
    CtrN l Z mn17 jdk_52_method_16_code 6 (some (.array .byte)) [] (⟨3, 2, 6, 40⟩ : Room) #[(.ref a1), iZ, (.int 2)] h0 [] (fun v h => ∃ r1 : Addr, ∃ r2 : ClassId, h0.size ≤ r1 ∧ Arv Z h r1 r2 .byte 4 [(.int (bH x1)), (.int (bL x1)), (.int (bH x2)), (.int (bL x2))] iZ ∧ v = some (.ref r1)) := by
  refine CtrN.intro (L0 := #[vr a1, vi 0, vi 2, un, un, un]) (plainFor_of_name pn5) O0 (own_entry rfl) ?_
  intro p e s m below meth c T0 hy hml hret hlk hnm W0
  refine o_iloadN W0 1 (hb hy d12_0) rfl rfl ?_
  refine o_newP W0 (aty := .byte) (w25 hw) tri (by decide) (cap := 2) (by decide) (by decide) 3 (hb hy d12_1) rfl (cells' := 1) (slots' := 2) rfl rfl (by decide) (by decide) (vs := [iZ, iZ]) (dv := iZ) rfl rfl ?_
  intro b1 T1 h1 k1 W1 E1 ge1 gz1 gb1 V1
  refine o_astoreN W1 (L' := #[vr a1, vi 0, vi 2, vr b1, un, un]) 4 (hb hy d12_3) rfl rfl rfl <| o_aloadN W1 5 (hb hy d12_4) rfl rfl rfl <| o_iloadN W1 6 (hb hy d12_5) rfl rfl <| o_aloadN W1 7 (hb hy d12_6) rfl rfl rfl <| o_iconst W1 (v := 0) 8 (hb hy d12_7) rfl rfl <| o_iloadN W1 9 (hb hy d12_8) rfl rfl ?_
  have c2 := (z1.ext E1)
  refine o_staticC W1 (w62 hw) (w63 hw) (w60 hw) (w64 hw) (by decide) (rm100 l hw a1 b1 z0 x1 x2 h1 W1.old c2 hu3 hc4 hc5) 0 1 2 (by decide) (by rw [hml]; rfl) (lenOf pd9 rfl) [] rfl rfl 12 (hb hy d12_9) rfl rfl rfl all0 tri ?_
  intro v6 T6 h6 lo6 W6 K6 q6
  obtain rfl := q6.2.2
  show Gl _ _ _ _ _ _ _ _ [iZ]
  refine o_istore W6 (L' := #[vr a1, vi 0, vi 2, vr b1, vi 0, un]) 14 (hb hy d12_12) rfl rfl <| o_iload W6 16 (hb hy d12_14) rfl rfl <| o_iloadN W6 17 (hb hy d12_16) rfl rfl <| o_icmpN W6 20 (hb hy d12_17) (XT.ii_eq_f (by decide)) rfl <| o_aloadN W6 21 (hb hy d12_20) rfl rfl rfl <| o_iloadN W6 22 (hb hy d12_21) rfl rfl ?_
  refine o_iloadN W6 23 (hb hy d12_22) rfl rfl ?_
  have c7 := (c2.keep K6 nin0)
  refine o_staticC W6 (w94 hw) (w95 hw) (w60 hw) (w96 hw) (by decide) (rm84 l hw a1 z0 x1 x2 h6 W6.old c7 z2 z3 z4) 0 2 6 (by decide) (by rw [hml]; rfl) (lenOf pd10 rfl) [] rfl rfl 26 (hb hy d12_23) rfl rfl rfl all0 tri ?_
  intro v8 T8 h8 lo8 W8 K8 q8
  obtain ⟨r1_8, r2_8, P8_0, P8_1, rfl⟩ := q8.2.2
  show Gl _ _ _ _ _ _ _ _ [(.ref r1_8)]
  refine o_astore W8 (L' := #[vr a1, vi 0, vi 2, vr b1, vi 0, vr r1_8]) 28 (hb hy d12_26) rfl rfl rfl <| o_aload W8 30 (hb hy d12_28) rfl rfl rfl <| o_iload W8 32 (hb hy d12_30) rfl rfl ?_
  refine o_staticC W8 (w110 hw) (w111 hw) (w60 hw) (w112 hw) (by decide) (rm91 l hw r1_8 r2_8 x1 x2 h8 W8.old z2 P8_1 z3 z4 hu3 hc4) 0 2 6 (by decide) (by rw [hml]; rfl) (lenOf pd17 rfl) [] rfl rfl 35 (hb hy d12_32) rfl rfl rfl all0 tri ?_
  intro v9 T9 h9 lo9 W9 K9 q9
  obtain rfl := q9.2.2
  show Gl _ _ _ _ _ _ _ _ [(.int x1)]
  refine o_sipush W9 (v := 255) 38 (hb hy d12_35) (by decide) rfl <| o_icmpY W9 54 (hb hy d12_38) (XT.ii_gt_t hc5) (by decide) rfl <| o_aload W9 56 (hb hy d12_54) rfl rfl rfl ?_
  have c10 := (P8_1.keep K9 nin0)
  exact o_retA W9 hlk (v := (.ref r1_8)) hret rfl rfl (hb hy d12_56) (by decide) (by decide) ⟨r1_8, r2_8, (Nat.le_trans W6.keep.1 P8_0), c10, rfl⟩
theorem rm102 (l : Launch) {Z a0} (hw : HW Z a0) (gCS : Int32) (a1 a2 : Addr) (z0 : ClassId) (x1 x2 : Int32) (h0 : Heap) (O0 : Old Z Z.heap.size h0) (SgCS : Sta Z Z.heap s1 s5 "Z" (.int gCS)) (NgCS : ¬ (gCS = (0 : Int32))) (z1 : Arv Z h0 a2 z0 .char 2 [(.int x1), (.int x2)] iZ) (hu3 : own_cp x1) (hc4 : x1 < (65536 : Int32)) (hc5 : (255 : Int32) < x1) (z2 : Sta Z Z.heap s0 s2 "Z" (.int 1)) (z3 : Sta Z Z.heap s0 s3 "I" iZ) (z4 : Sta Z Z.heap s0 s4 "I" (.int 8)) (z5 : Exa Z h0 a1 s1) (z6 : Fld Z h0 a1 s1 "coder" "B" iZ) (z7 : Z.heap.size ≤ a1) (z8 : Fld Z h0 a1 s1 "value" "[B" .null) :
    CtrN l Z mn8 jdk_42_method_149_code 6 none [] (⟨4, 2, 6, 57⟩ : Room) #[(.ref a1), (.ref a2), iZ, (.int 2), .null] h0 [a1] (fun v h => ∃ r1 : Addr, ∃ r2 : ClassId, h0.size ≤ r1 ∧ Fld Z h a1 s1 "coder" "B" (.int 1) ∧ Fld Z h a1 s1 "value" "[B" (.ref r1) ∧ Arv Z h r1 r2 .byte 4 [(.int (bH x1)), (.int (bL x1)), (.int (bH x2)), (.int (bL x2))] iZ ∧ v = none) := by
  refine CtrN.intro (L0 := #[vr a1, vr a2, vi 0, vi 2, .val .null, un]) (plainFor_of_name pn2) O0 (own_entry rfl) ?_
  intro p e s m below meth c T0 hy hml hret hlk hnm W0
  refine o_aloadN W0 1 (hb hy d4_0) rfl rfl rfl ?_
  refine o_initO W0 (w21 hw) (w22 hw) (w23 hw) (by rw [hml]; rfl) 4 (hb hy d4_1) rfl (by decide) 0 (by exact Nat.le_of_eq rfl) (by decide) ?_
  intro T1 W1
  refine o_iloadN W1 5 (hb hy d4_4) rfl rfl <| o_ifY W1 27 (hb hy d4_5) (XT.i0_ne_t (by decide)) (by decide) rfl ?_
  refine o_getS W1 (w49 hw) Via.refl (SgCS.ext W1.ox) 30 (hb hy d4_27) rfl ?_
  intro T2 W2
  refine o_ifN W2 33 (hb hy d4_30) (XT.i0_eq_f NgCS) rfl <| o_aloadN W2 34 (hb hy d4_33) rfl rfl rfl <| o_iloadN W2 35 (hb hy d4_34) rfl rfl <| o_iloadN W2 36 (hb hy d4_35) rfl rfl ?_
  refine o_staticC W2 (w58 hw) (w59 hw) (w60 hw) (w61 hw) (by decide) (rm101 l hw a2 z0 x1 x2 h0 W2.old z1 hu3 hc4 hc5 z2 z3 z4) 0 2 6 (by decide) (by rw [hml]; rfl) (lenOf pd10 rfl) [] rfl rfl 39 (hb hy d4_36) rfl rfl rfl all0 tri ?_
  intro v6 T6 h6 lo6 W6 K6 q6
  obtain ⟨r1_6, r2_6, P6_0, P6_1, rfl⟩ := q6.2.2
  show Gl _ _ _ _ _ _ _ _ [(.ref r1_6)]
  refine o_astore W6 (L' := #[vr a1, vr a2, vi 0, vi 2, .val .null, vr r1_6]) 41 (hb hy d4_39) rfl rfl rfl <| o_aloadN W6 42 (hb hy d4_41) rfl rfl rfl <| o_aload W6 44 (hb hy d4_42) rfl rfl rfl <| o_iloadN W6 45 (hb hy d4_44) rfl rfl ?_
  refine o_staticC W6 (w65 hw) (w66 hw) (w60 hw) (w67 hw) (by decide) (rm87 l hw r1_6 r2_6 x1 x2 h6 W6.old P6_1) 1 2 6 (by decide) (by rw [hml]; rfl) (lenOf pd11 rfl) [(.ref a1)] rfl rfl 48 (hb hy d4_45) rfl rfl rfl all0 tri ?_
  intro v7 T7 h7 lo7 W7 K7 q7
  obtain rfl := q7.2.2
  show Gl _ _ _ _ _ _ _ _ [(.int 1), (.ref a1)]
  have c8 := ((z5.keep K6).keep K7)
  have c9 := ((z6.keep K6 nin0).keep K7 nin0)
  refine o_putF W7 (w31 hw) Via.refl c9 c8 (Or.inr ⟨(w27 hw), rfl, hnm⟩) (w11 hw) (ty := .byte) (v' := (.int 1)) (by decide) rfl (by decide) z7 m0 tri 51 (hb hy d4_48) rfl ?_
  intro T10 h10 lo10 W10 R10
  have F10 := c9.same R10
  refine o_aloadN W10 52 (hb hy d4_51) rfl rfl rfl <| o_aload W10 54 (hb hy d4_52) rfl rfl rfl ?_
  have c11 := (c8.wr R10)
  have c12 := (((z8.keep K6 nin0).keep K7 nin0).other R10 (Or.inr (slot_ne (Or.inr (w26 hw)) (Or.inr (w27 hw)) (by decide) (t := (.array .byte)) (t' := .byte) (by decide) (by decide))))
  refine o_putF W10 (w30 hw) Via.refl c12 c11 (Or.inr ⟨(w26 hw), rfl, hnm⟩) (w11 hw) (ty := (.array .byte)) (v' := (.ref r1_6)) (by decide) rfl rfl z7 m0 tri 57 (hb hy d4_54) rfl ?_
  intro T13 h13 lo13 W13 R13
  have F13 := c12.same R13
  have c14 := (F10.other R13 (Or.inr (slot_ne (Or.inr (w27 hw)) (Or.inr (w26 hw)) (by decide) (t := .byte) (t' := (.array .byte)) (by decide) (by decide))))
  have c15 := (c11.wr R13)
  have c16 := (((P6_1.keep K7 nin0).other R10 (own_ne' z5.lt P6_0)).other R13 (own_ne' z5.lt P6_0))
  exact o_ret0 W13 hlk hret (hb hy d4_57) (by decide) (by decide) ⟨r1_6, r2_6, (Nat.le_trans W2.keep.1 P6_0), c14, F13, c16, rfl⟩
theorem rm103 (l : Launch) {Z a0} (hw : HW Z a0) (gCS : Int32) (a1 a2 : Addr) (z0 : ClassId) (x1 x2 : Int32) (h0 : Heap) (O0 : Old Z Z.heap.size h0) (z1 : Arv Z h0 a2 z0 .char 2 [(.int x1), (.int x2)] iZ) (SgCS : Sta Z Z.heap s1 s5 "Z" (.int gCS)) (NgCS : ¬ (gCS = (0 : Int32))) (hu1 : own_cp x1) (hc2 : x1 < (65536 : Int32)) (hc3 : (255 : Int32) < x1) (z2 : Sta Z Z.heap s0 s2 "Z" (.int 1)) (z3 : Sta Z Z.heap s0 s3 "I" iZ) (z4 : Sta Z Z.heap s0 s4 "I" (.int 8)) (z5 : Exa Z h0 a1 s1) (z6 : Fld Z h0 a1 s1 "coder" "B" iZ) (z7 : Fld Z h0 a1 s1 "value" "[B" .null) (z8 : Z.heap.size ≤ a1) :
    CtrN l Z mn9 jdk_42_method_3_code 2 none [] (⟨5, 2, 6, 74⟩ : Room) #[(.ref a1), (.ref a2)] h0 [a1] (fun v h => ∃ r1 : Addr, ∃ r2 : ClassId, h0.size ≤ r1 ∧ Fld Z h a1 s1 "coder" "B" (.int 1) ∧ Fld Z h a1 s1 "value" "[B" (.ref r1) ∧ Arv Z h r1 r2 .byte 4 [(.int (bH x1)), (.int (bL x1)), (.int (bH x2)), (.int (bL x2))] iZ ∧ v = none) := by
  refine CtrN.intro (L0 := #[vr a1, vr a2]) (plainFor_of_name pn2) O0 (own_entry rfl) ?_
  intro p e s m below meth c T0 hy hml hret hlk hnm W0
  refine o_aloadN W0 1 (hb hy d3_0) rfl rfl rfl <| o_aloadN W0 2 (hb hy d3_1) rfl rfl rfl <| o_iconst W0 (v := 0) 3 (hb hy d3_2) rfl rfl <| o_aloadN W0 4 (hb hy d3_3) rfl rfl rfl <| o_len W0 z1 5 (hb hy d3_4) rfl ?_
  refine o_aconstNull W0 6 (hb hy d3_5) rfl ?_
  refine o_specialC W0 rfl (w17 hw) (w18 hw) (w20 hw) (by decide) (w12 hw) (rm102 l hw gCS a1 a2 z0 x1 x2 h0 W0.old SgCS NgCS z1 hu1 hc2 hc3 z2 z3 z4 z5 z6 z8 z7) 0 2 6 (by decide) (by rw [hml]; rfl) (lenOf pd1 rfl) [] rfl rfl 9 (hb hy d3_6) rfl rfl rfl (allS ⟨z8, m0⟩ all0) tri ?_
  intro v4 T4 h4 lo4 W4 K4 q4
  obtain ⟨r1_4, r2_4, P4_0, P4_1, P4_2, P4_3, rfl⟩ := q4.2.2
  show Gl _ _ _ _ _ _ _ _ []
  have c5 := (z5.keep K4)
  exact o_ret0 W4 hlk hret (hb hy d3_9) (by decide) (by decide) ⟨r1_4, r2_4, (Nat.le_trans W0.keep.1 P4_0), P4_1, P4_2, P4_3, rfl⟩
theorem rm104 (l : Launch) {Z a0} (hw : HW Z a0) (a1 a2 : Addr) (z0 : ClassId) (x1 x2 : Int32) (z1 : ClassId) (h0 : Heap) (O0 : Old Z Z.heap.size h0) (z2 : Arv Z h0 a1 z0 .char 3 [(.int x1), (.int (own_hi x2)), (.int (own_lo x2))] iZ) (hu1 : own_cp x1) (hc2 : x1 < (65536 : Int32)) (hc3 : ¬ ((255 : Int32) < x1)) (z3 : Arv Z h0 a2 z1 .byte 3 [iZ, iZ, iZ] iZ) (z4 : Z.heap.size ≤ a2) (z5 : a1 ≠ a2) (hu6 : own_cp x2) (hc7 : ¬ (x2 < (65536 : Int32))) :
    CtrN l Z mn16 jdk_52_method_21_code 7 (some .int) [] (⟨0, 0, 0, 0⟩ : Room) #[(.ref a1), iZ, (.ref a2), iZ, (.int 3)] h0 [a2] (fun v h => Arv Z h a2 z1 .byte 3 [(.int (bB x1)), iZ, iZ] iZ ∧ v = some (.int 1)) := by
  refine CtrN.intro (L0 := #[vr a1, vi 0, vr a2, vi 0, vi 3, un, un]) (plainFor_of_name pn5) O0 (own_entry rfl) ?_
  intro p e s m below meth c T0 hy hml hret hlk hnm W0
  refine o_iconst W0 (v := 0) 1 (hb hy d13_0) rfl rfl <| o_istore W0 (L' := #[vr a1, vi 0, vr a2, vi 0, vi 3, vi 0, un]) 3 (hb hy d13_1) rfl rfl <| o_iload W0 5 (hb hy d13_3) rfl rfl <| o_iload W0 7 (hb hy d13_5) rfl rfl <| o_icmpN W0 10 (hb hy d13_7) (XT.ii_ge_f (by decide)) rfl <| o_aloadN W0 11 (hb hy d13_10) rfl rfl rfl ?_
  refine o_iloadN W0 12 (hb hy d13_11) rfl rfl <| o_caload W0 z2 (x := x1) (i := 0) (by decide) (by decide) (by decide) rfl 13 (hb hy d13_12) rfl <| o_istore W0 (L' := #[vr a1, vi 0, vr a2, vi 0, vi 3, vi 0, vi x1]) 15 (hb hy d13_13) rfl rfl <| o_iload W0 17 (hb hy d13_15) rfl rfl <| o_sipush W0 (v := 255) 20 (hb hy d13_17) (by decide) rfl <| o_icmpY W0 26 (hb hy d13_20) (XT.ii_le_t (own_cb (own_cpc hu1 hc2) hc3).2) (by decide) rfl ?_
  refine o_aloadN W0 27 (hb hy d13_26) rfl rfl rfl <| o_iloadN W0 28 (hb hy d13_27) rfl rfl <| o_iload W0 30 (hb hy d13_28) rfl rfl <| o_i2b W0 (v := (bB x1)) 31 (hb hy d13_30) rfl rfl ?_
  refine o_stB W0 z3 (i := 0) (x' := (bB x1)) (by decide) (by decide) (by decide) (Nat.lt_of_sub_eq_succ rfl) (own_b8 _) (vs' := [(.int (bB x1)), iZ, iZ]) rfl z4 m0 tri 32 (hb hy d13_31) rfl ?_
  intro T4 h4 lo4 W4 R4 V4
  refine o_iinc W4 (v := 1) (L' := #[vr a1, vi 1, vr a2, vi 0, vi 3, vi 0, vi x1]) 35 (hb hy d13_32) rfl (by decide) rfl rfl <| o_iinc W4 (v := 1) (L' := #[vr a1, vi 1, vr a2, vi 1, vi 3, vi 0, vi x1]) 38 (hb hy d13_35) rfl (by decide) rfl rfl <| o_iinc W4 (v := 1) (L' := #[vr a1, vi 1, vr a2, vi 1, vi 3, vi 1, vi x1]) 41 (hb hy d13_38) rfl (by decide) rfl rfl <| o_goto W4 3 (hb hy d13_41) (by decide) rfl <| o_iload W4 5 (hb hy d13_3) rfl rfl <| o_iload W4 7 (hb hy d13_5) rfl rfl ?_
  refine o_icmpN W4 10 (hb hy d13_7) (XT.ii_ge_f (by decide)) rfl <| o_aloadN W4 11 (hb hy d13_10) rfl rfl rfl <| o_iloadN W4 12 (hb hy d13_11) rfl rfl ?_
  have c5 := (z2.other R4 z5)
  refine o_caload W4 c5 (x := (own_hi x2)) (i := 1) (by decide) (by decide) (by decide) rfl 13 (hb hy d13_12) rfl <| o_istore W4 (L' := #[vr a1, vi 1, vr a2, vi 1, vi 3, vi 1, vi (own_hi x2)]) 15 (hb hy d13_13) rfl rfl <| o_iload W4 17 (hb hy d13_15) rfl rfl <| o_sipush W4 (v := 255) 20 (hb hy d13_17) (by decide) rfl <| o_icmpN W4 23 (hb hy d13_20) (XT.ii_le_f (own_hiI (own_spI hu6 hc7)).2.2) rfl <| o_iload W4 25 (hb hy d13_23) rfl rfl ?_
  exact o_retI W4 hlk hret (hb hy d13_25) (by decide) (by decide) ⟨V4, rfl⟩
theorem rm105 (l : Launch) {Z a0} (hw : HW Z a0)  (h0 : Heap) (O0 : Old Z Z.heap.size h0) :
    CtrN l Z mn22 jdk_52_method_3_code 1 (some .int) [] (⟨0, 0, 0, 0⟩ : Room) #[(.int 3)] h0 [] (fun v h => v = some (.int 6)) := by
  refine CtrN.intro (L0 := #[vi 3]) (plainFor_of_name pn5) O0 (own_entry rfl) ?_
  intro p e s m below meth c T0 hy hml hret hlk hnm W0
  refine o_iloadN W0 1 (hb hy d23_0) rfl rfl <| o_ifY W0 12 (hb hy d23_1) (XT.i0_ge_t (by decide)) (by decide) rfl <| o_iloadN W0 13 (hb hy d23_12) rfl rfl <| o_ldcI W0 (w103 hw) 15 (hb hy d23_13) rfl <| o_icmpY W0 55 (hb hy d23_15) (XT.ii_lt_t (by decide)) (by decide) rfl <| o_iloadN W0 56 (hb hy d23_55) rfl rfl ?_
  refine o_iconst W0 (v := 1) 57 (hb hy d23_56) rfl rfl <| o_ishl W0 (v := 6) 58 (hb hy d23_57) (by decide) rfl ?_
  exact o_retI W0 hlk hret (hb hy d23_58) (by decide) (by decide) rfl
theorem rm106 (l : Launch) {Z a0} (hw : HW Z a0)  (h0 : Heap) (O0 : Old Z Z.heap.size h0) :
    CtrN l Z mn23 jdk_52_method_2_code 1 (some (.array .byte)) [] (⟨1, 1, 6, 12⟩ : Room) #[(.int 3)] h0 [] (fun v h => ∃ r1 : Addr, ∃ r2 : ClassId, h0.size ≤ r1 ∧ Arv Z h r1 r2 .byte 6 [iZ, iZ, iZ, iZ, iZ, iZ] iZ ∧ v = some (.ref r1)) := by
  refine CtrN.intro (L0 := #[vi 3]) (plainFor_of_name pn5) O0 (own_entry rfl) ?_
  intro p e s m below meth c T0 hy hml hret hlk hnm W0
  refine o_iloadN W0 1 (hb hy d22_0) rfl rfl ?_
  refine o_staticC W0 (w100 hw) (w101 hw) (w60 hw) (w102 hw) (by decide) (rm105 l hw  h0 W0.old ) 0 0 0 (by decide) (by rw [hml]; rfl) (lenOf pd8 rfl) [] rfl rfl 4 (hb hy d22_1) rfl rfl rfl all0 tri ?_
  intro v1 T1 h1 lo1 W1 K1 q1
  obtain rfl := q1.2.2
  show Gl _ _ _ _ _ _ _ _ [(.int 6)]
  refine o_newP W1 (aty := .byte) (w25 hw) tri (by decide) (cap := 6) (by decide) (by decide) 6 (hb hy d22_4) rfl (cells' := 1) (slots' := 6) rfl rfl (by decide) (by decide) (vs := [iZ, iZ, iZ, iZ, iZ, iZ]) (dv := iZ) rfl rfl ?_
  intro b2 T2 h2 k2 W2 E2 ge2 gz2 gb2 V2
  exact o_retA W2 hlk (v := (.ref b2)) hret rfl rfl (hb hy d22_6) (by decide) (by decide) ⟨b2, k2, gb2, V2, rfl⟩
theorem rm107 (l : Launch) {Z a0} (hw : HW Z a0) (a1 : Addr) (x1 : Int32) (z0 : ClassId) (h0 : Heap) (O0 : Old Z Z.heap.size h0) (z1 : Sta Z Z.heap s0 s2 "Z" (.int 1)) (z2 : Sta Z Z.heap s0 s3 "I" iZ) (z3 : Arv Z h0 a1 z0 .byte 6 [iZ, iZ, iZ, iZ, iZ, iZ] iZ) (z4 : Z.heap.size ≤ a1) (z5 : Sta Z Z.heap s0 s4 "I" (.int 8)) :
    CtrN l Z mn24 jdk_52_method_4_code 3 none [] (⟨0, 0, 0, 0⟩ : Room) #[(.ref a1), iZ, (.int x1)] h0 [a1] (fun v h => Arv Z h a1 z0 .byte 6 [(.int (bH x1)), (.int (bL x1)), iZ, iZ, iZ, iZ] iZ ∧ v = none) := by
  refine CtrN.intro (L0 := #[vr a1, vi 0, vi x1]) (plainFor_of_name pn5) O0 (own_entry rfl) ?_
  intro p e s m below meth c T0 hy hml hret hlk hnm W0
  refine o_getS W0 (w107 hw) Via.refl (z1.ext W0.ox) 3 (hb hy d24_0) rfl ?_
  intro T1 W1
  refine o_ifY W1 28 (hb hy d24_3) (XT.i0_ne_t (by decide)) (by decide) rfl <| o_iloadN W1 29 (hb hy d24_28) rfl rfl <| o_iconst W1 (v := 1) 30 (hb hy d24_29) rfl rfl <| o_ishl W1 (v := 0) 31 (hb hy d24_30) (by decide) rfl <| o_istoreN W1 (L' := #[vr a1, vi 0, vi x1]) 32 (hb hy d24_31) rfl rfl <| o_aloadN W1 33 (hb hy d24_32) rfl rfl rfl ?_
  refine o_iloadN W1 34 (hb hy d24_33) rfl rfl <| o_iinc W1 (v := 1) (L' := #[vr a1, vi 1, vi x1]) 37 (hb hy d24_34) rfl (by decide) rfl rfl <| o_iloadN W1 38 (hb hy d24_37) rfl rfl ?_
  refine o_getS W1 (w108 hw) Via.refl (z2.ext W1.ox) 41 (hb hy d24_38) rfl ?_
  intro T2 W2
  refine o_ishr W2 (v := (x1 >>> ((0 : Int32) &&& 31))) 42 (hb hy d24_41) rfl rfl <| o_i2b W2 (v := (bH x1)) 43 (hb hy d24_42) rfl rfl ?_
  refine o_stB W2 z3 (i := 0) (x' := (bH x1)) (by decide) (by decide) (by decide) (Nat.lt_of_sub_eq_succ rfl) (own_b8 _) (vs' := [(.int (bH x1)), iZ, iZ, iZ, iZ, iZ]) rfl z4 m0 tri 44 (hb hy d24_43) rfl ?_
  intro T3 h3 lo3 W3 R3 V3
  refine o_aloadN W3 45 (hb hy d24_44) rfl rfl rfl <| o_iloadN W3 46 (hb hy d24_45) rfl rfl <| o_iloadN W3 47 (hb hy d24_46) rfl rfl ?_
  refine o_getS W3 (w109 hw) Via.refl (z5.ext W3.ox) 50 (hb hy d24_47) rfl ?_
  intro T4 W4
  refine o_ishr W4 (v := (x1 >>> ((8 : Int32) &&& 31))) 51 (hb hy d24_50) rfl rfl <| o_i2b W4 (v := (bL x1)) 52 (hb hy d24_51) rfl rfl ?_
  refine o_stB W4 V3 (i := 1) (x' := (bL x1)) (by decide) (by decide) (by decide) (Nat.lt_of_sub_eq_succ rfl) (own_b8 _) (vs' := [(.int (bH x1)), (.int (bL x1)), iZ, iZ, iZ, iZ]) rfl z4 m0 tri 53 (hb hy d24_52) rfl ?_
  intro T5 h5 lo5 W5 R5 V5
  exact o_ret0 W5 hlk hret (hb hy d24_53) (by decide) (by decide) ⟨V5, rfl⟩
theorem rm108 (l : Launch) {Z a0} (hw : HW Z a0) (a1 : Addr) (x1 : Int32) (z0 : ClassId) (x2 : Int32) (h0 : Heap) (O0 : Old Z Z.heap.size h0) (z1 : Sta Z Z.heap s0 s2 "Z" (.int 1)) (z2 : Sta Z Z.heap s0 s3 "I" iZ) (z3 : Arv Z h0 a1 z0 .byte 6 [(.int (bH x2)), (.int (bL x2)), iZ, iZ, iZ, iZ] iZ) (z4 : Z.heap.size ≤ a1) (z5 : Sta Z Z.heap s0 s4 "I" (.int 8)) :
    CtrN l Z mn24 jdk_52_method_4_code 3 none [] (⟨0, 0, 0, 0⟩ : Room) #[(.ref a1), (.int 1), (.int (own_hi x1))] h0 [a1] (fun v h => Arv Z h a1 z0 .byte 6 [(.int (bH x2)), (.int (bL x2)), (.int (((own_hi x1) >>> ((0 : Int32) &&& 31)).toInt8.toInt32)), (.int (((own_hi x1) >>> ((8 : Int32) &&& 31)).toInt8.toInt32)), iZ, iZ] iZ ∧ v = none) := by
  refine CtrN.intro (L0 := #[vr a1, vi 1, vi (own_hi x1)]) (plainFor_of_name pn5) O0 (own_entry rfl) ?_
  intro p e s m below meth c T0 hy hml hret hlk hnm W0
  refine o_getS W0 (w107 hw) Via.refl (z1.ext W0.ox) 3 (hb hy d24_0) rfl ?_
  intro T1 W1
  refine o_ifY W1 28 (hb hy d24_3) (XT.i0_ne_t (by decide)) (by decide) rfl <| o_iloadN W1 29 (hb hy d24_28) rfl rfl <| o_iconst W1 (v := 1) 30 (hb hy d24_29) rfl rfl <| o_ishl W1 (v := 2) 31 (hb hy d24_30) (by decide) rfl <| o_istoreN W1 (L' := #[vr a1, vi 2, vi (own_hi x1)]) 32 (hb hy d24_31) rfl rfl <| o_aloadN W1 33 (hb hy d24_32) rfl rfl rfl ?_
  refine o_iloadN W1 34 (hb hy d24_33) rfl rfl <| o_iinc W1 (v := 3) (L' := #[vr a1, vi 3, vi (own_hi x1)]) 37 (hb hy d24_34) rfl (by decide) rfl rfl <| o_iloadN W1 38 (hb hy d24_37) rfl rfl ?_
  refine o_getS W1 (w108 hw) Via.refl (z2.ext W1.ox) 41 (hb hy d24_38) rfl ?_
  intro T2 W2
  refine o_ishr W2 (v := ((own_hi x1) >>> ((0 : Int32) &&& 31))) 42 (hb hy d24_41) rfl rfl <| o_i2b W2 (v := (((own_hi x1) >>> ((0 : Int32) &&& 31)).toInt8.toInt32)) 43 (hb hy d24_42) rfl rfl ?_
  refine o_stB W2 z3 (i := 2) (x' := (((own_hi x1) >>> ((0 : Int32) &&& 31)).toInt8.toInt32)) (by decide) (by decide) (by decide) (Nat.lt_of_sub_eq_succ rfl) (own_b8 _) (vs' := [(.int (bH x2)), (.int (bL x2)), (.int (((own_hi x1) >>> ((0 : Int32) &&& 31)).toInt8.toInt32)), iZ, iZ, iZ]) rfl z4 m0 tri 44 (hb hy d24_43) rfl ?_
  intro T3 h3 lo3 W3 R3 V3
  refine o_aloadN W3 45 (hb hy d24_44) rfl rfl rfl <| o_iloadN W3 46 (hb hy d24_45) rfl rfl <| o_iloadN W3 47 (hb hy d24_46) rfl rfl ?_
  refine o_getS W3 (w109 hw) Via.refl (z5.ext W3.ox) 50 (hb hy d24_47) rfl ?_
  intro T4 W4
  refine o_ishr W4 (v := ((own_hi x1) >>> ((8 : Int32) &&& 31))) 51 (hb hy d24_50) rfl rfl <| o_i2b W4 (v := (((own_hi x1) >>> ((8 : Int32) &&& 31)).toInt8.toInt32)) 52 (hb hy d24_51) rfl rfl ?_
  refine o_stB W4 V3 (i := 3) (x' := (((own_hi x1) >>> ((8 : Int32) &&& 31)).toInt8.toInt32)) (by decide) (by decide) (by decide) (Nat.lt_of_sub_eq_succ rfl) (own_b8 _) (vs' := [(.int (bH x2)), (.int (bL x2)), (.int (((own_hi x1) >>> ((0 : Int32) &&& 31)).toInt8.toInt32)), (.int (((own_hi x1) >>> ((8 : Int32) &&& 31)).toInt8.toInt32)), iZ, iZ]) rfl z4 m0 tri 53 (hb hy d24_52) rfl ?_
  intro T5 h5 lo5 W5 R5 V5
  exact o_ret0 W5 hlk hret (hb hy d24_53) (by decide) (by decide) ⟨V5, rfl⟩
theorem rm109 (l : Launch) {Z a0} (hw : HW Z a0) (a1 : Addr) (x1 : Int32) (z0 : ClassId) (x2 : Int32) (h0 : Heap) (O0 : Old Z Z.heap.size h0) (z1 : Sta Z Z.heap s0 s2 "Z" (.int 1)) (z2 : Sta Z Z.heap s0 s3 "I" iZ) (z3 : Arv Z h0 a1 z0 .byte 6 [(.int (bH x2)), (.int (bL x2)), (.int (((own_hi x1) >>> ((0 : Int32) &&& 31)).toInt8.toInt32)), (.int (((own_hi x1) >>> ((8 : Int32) &&& 31)).toInt8.toInt32)), iZ, iZ] iZ) (z4 : Z.heap.size ≤ a1) (z5 : Sta Z Z.heap s0 s4 "I" (.int 8)) :
    CtrN l Z mn24 jdk_52_method_4_code 3 none [] (⟨0, 0, 0, 0⟩ : Room) #[(.ref a1), (.int 2), (.int (own_lo x1))] h0 [a1] (fun v h => Arv Z h a1 z0 .byte 6 [(.int (bH x2)), (.int (bL x2)), (.int (((own_hi x1) >>> ((0 : Int32) &&& 31)).toInt8.toInt32)), (.int (((own_hi x1) >>> ((8 : Int32) &&& 31)).toInt8.toInt32)), (.int (((own_lo x1) >>> ((0 : Int32) &&& 31)).toInt8.toInt32)), (.int (((own_lo x1) >>> ((8 : Int32) &&& 31)).toInt8.toInt32))] iZ ∧ v = none) := by
  refine CtrN.intro (L0 := #[vr a1, vi 2, vi (own_lo x1)]) (plainFor_of_name pn5) O0 (own_entry rfl) ?_
  intro p e s m below meth c T0 hy hml hret hlk hnm W0
  refine o_getS W0 (w107 hw) Via.refl (z1.ext W0.ox) 3 (hb hy d24_0) rfl ?_
  intro T1 W1
  refine o_ifY W1 28 (hb hy d24_3) (XT.i0_ne_t (by decide)) (by decide) rfl <| o_iloadN W1 29 (hb hy d24_28) rfl rfl <| o_iconst W1 (v := 1) 30 (hb hy d24_29) rfl rfl <| o_ishl W1 (v := 4) 31 (hb hy d24_30) (by decide) rfl <| o_istoreN W1 (L' := #[vr a1, vi 4, vi (own_lo x1)]) 32 (hb hy d24_31) rfl rfl <| o_aloadN W1 33 (hb hy d24_32) rfl rfl rfl ?_
  refine o_iloadN W1 34 (hb hy d24_33) rfl rfl <| o_iinc W1 (v := 5) (L' := #[vr a1, vi 5, vi (own_lo x1)]) 37 (hb hy d24_34) rfl (by decide) rfl rfl <| o_iloadN W1 38 (hb hy d24_37) rfl rfl ?_
  refine o_getS W1 (w108 hw) Via.refl (z2.ext W1.ox) 41 (hb hy d24_38) rfl ?_
  intro T2 W2
  refine o_ishr W2 (v := ((own_lo x1) >>> ((0 : Int32) &&& 31))) 42 (hb hy d24_41) rfl rfl <| o_i2b W2 (v := (((own_lo x1) >>> ((0 : Int32) &&& 31)).toInt8.toInt32)) 43 (hb hy d24_42) rfl rfl ?_
  refine o_stB W2 z3 (i := 4) (x' := (((own_lo x1) >>> ((0 : Int32) &&& 31)).toInt8.toInt32)) (by decide) (by decide) (by decide) (Nat.lt_of_sub_eq_succ rfl) (own_b8 _) (vs' := [(.int (bH x2)), (.int (bL x2)), (.int (((own_hi x1) >>> ((0 : Int32) &&& 31)).toInt8.toInt32)), (.int (((own_hi x1) >>> ((8 : Int32) &&& 31)).toInt8.toInt32)), (.int (((own_lo x1) >>> ((0 : Int32) &&& 31)).toInt8.toInt32)), iZ]) rfl z4 m0 tri 44 (hb hy d24_43) rfl ?_
  intro T3 h3 lo3 W3 R3 V3
  refine o_aloadN W3 45 (hb hy d24_44) rfl rfl rfl <| o_iloadN W3 46 (hb hy d24_45) rfl rfl <| o_iloadN W3 47 (hb hy d24_46) rfl rfl ?_
  refine o_getS W3 (w109 hw) Via.refl (z5.ext W3.ox) 50 (hb hy d24_47) rfl ?_
  intro T4 W4
  refine o_ishr W4 (v := ((own_lo x1) >>> ((8 : Int32) &&& 31))) 51 (hb hy d24_50) rfl rfl <| o_i2b W4 (v := (((own_lo x1) >>> ((8 : Int32) &&& 31)).toInt8.toInt32)) 52 (hb hy d24_51) rfl rfl ?_
  refine o_stB W4 V3 (i := 5) (x' := (((own_lo x1) >>> ((8 : Int32) &&& 31)).toInt8.toInt32)) (by decide) (by decide) (by decide) (Nat.lt_of_sub_eq_succ rfl) (own_b8 _) (vs' := [(.int (bH x2)), (.int (bL x2)), (.int (((own_hi x1) >>> ((0 : Int32) &&& 31)).toInt8.toInt32)), (.int (((own_hi x1) >>> ((8 : Int32) &&& 31)).toInt8.toInt32)), (.int (((own_lo x1) >>> ((0 : Int32) &&& 31)).toInt8.toInt32)), (.int (((own_lo x1) >>> ((8 : Int32) &&& 31)).toInt8.toInt32))]) rfl z4 m0 tri 53 (hb hy d24_52) rfl ?_
  intro T5 h5 lo5 W5 R5 V5
  exact o_ret0 W5 hlk hret (hb hy d24_53) (by decide) (by decide) ⟨V5, rfl⟩
theorem rm110 (l : Launch) {Z a0} (hw : HW Z a0) (a1 : Addr) (z0 : ClassId) (x1 x2 : Int32) (h0 : Heap) (O0 : Old Z Z.heap.size h0) (z1 : Arv Z h0 a1 z0 .char 3 [(.int x1), (.int (own_hi x2)), (.int (own_lo x2))] iZ) (z2 : Sta Z Z.heap s0 s2 "Z" (.int 1)) (z3 : Sta Z Z.heap s0 s3 "I" iZ) (z4 : Sta Z Z.heap s0 s4 "I" (.int 8)) :
    CtrN l Z mn25 jdk_52_method_14_code 5 (some (.array .byte)) [] (⟨2, 1, 6, 24⟩ : Room) #[(.ref a1), iZ, (.int 3)] h0 [] (fun v h => ∃ r1 : Addr, ∃ r2 : ClassId, h0.size ≤ r1 ∧ Arv Z h r1 r2 .byte 6 [(.int (bH x1)), (.int (bL x1)), (.int (((own_hi x2) >>> ((0 : Int32) &&& 31)).toInt8.toInt32)), (.int (((own_hi x2) >>> ((8 : Int32) &&& 31)).toInt8.toInt32)), (.int (((own_lo x2) >>> ((0 : Int32) &&& 31)).toInt8.toInt32)), (.int (((own_lo x2) >>> ((8 : Int32) &&& 31)).toInt8.toInt32))] iZ ∧ v = some (.ref r1)) := by
  refine CtrN.intro (L0 := #[vr a1, vi 0, vi 3, un, un]) (plainFor_of_name pn5) O0 (own_entry rfl) ?_
  intro p e s m below meth c T0 hy hml hret hlk hnm W0
  refine o_iloadN W0 1 (hb hy d21_0) rfl rfl ?_
  refine o_staticC W0 (w97 hw) (w98 hw) (w60 hw) (w99 hw) (by decide) (rm106 l hw  h0 W0.old ) 0 1 6 (by decide) (by rw [hml]; rfl) (lenOf pd15 rfl) [] rfl rfl 4 (hb hy d21_1) rfl rfl rfl all0 tri ?_
  intro v1 T1 h1 lo1 W1 K1 q1
  obtain ⟨r1_1, r2_1, P1_0, P1_1, rfl⟩ := q1.2.2
  show Gl _ _ _ _ _ _ _ _ [(.ref r1_1)]
  refine o_astoreN W1 (L' := #[vr a1, vi 0, vi 3, vr r1_1, un]) 5 (hb hy d21_4) rfl rfl rfl <| o_iconst W1 (v := 0) 6 (hb hy d21_5) rfl rfl <| o_istore W1 (L' := #[vr a1, vi 0, vi 3, vr r1_1, vi 0]) 8 (hb hy d21_6) rfl rfl <| o_iload W1 10 (hb hy d21_8) rfl rfl <| o_iloadN W1 11 (hb hy d21_10) rfl rfl <| o_icmpN W1 14 (hb hy d21_11) (XT.ii_ge_f (by decide)) rfl ?_
  refine o_aloadN W1 15 (hb hy d21_14) rfl rfl rfl <| o_iload W1 17 (hb hy d21_15) rfl rfl <| o_aloadN W1 18 (hb hy d21_17) rfl rfl rfl <| o_iloadN W1 19 (hb hy d21_18) rfl rfl ?_
  have c2 := (z1.keep K1 nin0)
  refine o_caload W1 c2 (x := x1) (i := 0) (by decide) (by decide) (by decide) rfl 20 (hb hy d21_19) rfl ?_
  refine o_staticC W1 (w104 hw) (w105 hw) (w60 hw) (w106 hw) (by decide) (rm107 l hw r1_1 x1 r2_1 h1 W1.old z2 z3 P1_1 (Nat.le_trans W0.zs P1_0) z4) 0 1 6 (by decide) (by rw [hml]; rfl) (lenOf pd16 rfl) [] rfl rfl 23 (hb hy d21_20) rfl rfl rfl (allS ⟨(Nat.le_trans W0.zs P1_0), (Or.inr (Nat.le_trans W0.keep.1 P1_0))⟩ all0) tri ?_
  intro v3 T3 h3 lo3 W3 K3 q3
  obtain ⟨P3_0, rfl⟩ := q3.2.2
  show Gl _ _ _ _ _ _ _ _ []
  refine o_iinc W3 (v := 1) (L' := #[vr a1, vi 1, vi 3, vr r1_1, vi 0]) 26 (hb hy d21_23) rfl (by decide) rfl rfl <| o_iinc W3 (v := 1) (L' := #[vr a1, vi 1, vi 3, vr r1_1, vi 1]) 29 (hb hy d21_26) rfl (by decide) rfl rfl <| o_goto W3 8 (hb hy d21_29) (by decide) rfl <| o_iload W3 10 (hb hy d21_8) rfl rfl <| o_iloadN W3 11 (hb hy d21_10) rfl rfl <| o_icmpN W3 14 (hb hy d21_11) (XT.ii_ge_f (by decide)) rfl ?_
  refine o_aloadN W3 15 (hb hy d21_14) rfl rfl rfl <| o_iload W3 17 (hb hy d21_15) rfl rfl <| o_aloadN W3 18 (hb hy d21_17) rfl rfl rfl <| o_iloadN W3 19 (hb hy d21_18) rfl rfl ?_
  have c4 := (c2.keep K3 (ninS (own_ne z1.lt P1_0) nin0))
  refine o_caload W3 c4 (x := (own_hi x2)) (i := 1) (by decide) (by decide) (by decide) rfl 20 (hb hy d21_19) rfl ?_
  refine o_staticC W3 (w104 hw) (w105 hw) (w60 hw) (w106 hw) (by decide) (rm108 l hw r1_1 x2 r2_1 x1 h3 W3.old z2 z3 P3_0 (Nat.le_trans W0.zs P1_0) z4) 0 1 6 (by decide) (by rw [hml]; rfl) (lenOf pd16 rfl) [] rfl rfl 23 (hb hy d21_20) rfl rfl rfl (allS ⟨(Nat.le_trans W0.zs P1_0), (Or.inr (Nat.le_trans W0.keep.1 P1_0))⟩ all0) tri ?_
  intro v5 T5 h5 lo5 W5 K5 q5
  obtain ⟨P5_0, rfl⟩ := q5.2.2
  show Gl _ _ _ _ _ _ _ _ []
  refine o_iinc W5 (v := 2) (L' := #[vr a1, vi 2, vi 3, vr r1_1, vi 1]) 26 (hb hy d21_23) rfl (by decide) rfl rfl <| o_iinc W5 (v := 2) (L' := #[vr a1, vi 2, vi 3, vr r1_1, vi 2]) 29 (hb hy d21_26) rfl (by decide) rfl rfl <| o_goto W5 8 (hb hy d21_29) (by decide) rfl <| o_iload W5 10 (hb hy d21_8) rfl rfl <| o_iloadN W5 11 (hb hy d21_10) rfl rfl <| o_icmpN W5 14 (hb hy d21_11) (XT.ii_ge_f (by decide)) rfl ?_
  refine o_aloadN W5 15 (hb hy d21_14) rfl rfl rfl <| o_iload W5 17 (hb hy d21_15) rfl rfl <| o_aloadN W5 18 (hb hy d21_17) rfl rfl rfl <| o_iloadN W5 19 (hb hy d21_18) rfl rfl ?_
  have c6 := (c4.keep K5 (ninS (own_ne z1.lt P1_0) nin0))
  refine o_caload W5 c6 (x := (own_lo x2)) (i := 2) (by decide) (by decide) (by decide) rfl 20 (hb hy d21_19) rfl ?_
  refine o_staticC W5 (w104 hw) (w105 hw) (w60 hw) (w106 hw) (by decide) (rm109 l hw r1_1 x2 r2_1 x1 h5 W5.old z2 z3 P5_0 (Nat.le_trans W0.zs P1_0) z4) 0 1 6 (by decide) (by rw [hml]; rfl) (lenOf pd16 rfl) [] rfl rfl 23 (hb hy d21_20) rfl rfl rfl (allS ⟨(Nat.le_trans W0.zs P1_0), (Or.inr (Nat.le_trans W0.keep.1 P1_0))⟩ all0) tri ?_
  intro v7 T7 h7 lo7 W7 K7 q7
  obtain ⟨P7_0, rfl⟩ := q7.2.2
  show Gl _ _ _ _ _ _ _ _ []
  refine o_iinc W7 (v := 3) (L' := #[vr a1, vi 3, vi 3, vr r1_1, vi 2]) 26 (hb hy d21_23) rfl (by decide) rfl rfl <| o_iinc W7 (v := 3) (L' := #[vr a1, vi 3, vi 3, vr r1_1, vi 3]) 29 (hb hy d21_26) rfl (by decide) rfl rfl <| o_goto W7 8 (hb hy d21_29) (by decide) rfl <| o_iload W7 10 (hb hy d21_8) rfl rfl <| o_iloadN W7 11 (hb hy d21_10) rfl rfl <| o_icmpY W7 32 (hb hy d21_11) (XT.ii_ge_t (by decide)) (by decide) rfl ?_
  refine o_aloadN W7 33 (hb hy d21_32) rfl rfl rfl ?_
  exact o_retA W7 hlk (v := (.ref r1_1)) hret rfl rfl (hb hy d21_33) (by decide) (by decide) ⟨r1_1, r2_1, (Nat.le_trans W0.keep.1 P1_0), P7_0, rfl⟩
theorem rm111 (l : Launch) {Z a0} (hw : HW Z a0) (a1 : Addr) (z0 : ClassId) (x1 x2 : Int32) (h0 : Heap) (O0 : Old Z Z.heap.size h0) (z1 : Sta Z Z.heap s0 s2 "Z" (.int 1)) (z2 : Arv Z h0 a1 z0 .byte 6 [(.int (bH x1)), (.int (bL x1)), (.int (((own_hi x2) >>> ((0 : Int32) &&& 31)).toInt8.toInt32)), (.int (((own_hi x2) >>> ((8 : Int32) &&& 31)).toInt8.toInt32)), (.int (((own_lo x2) >>> ((0 : Int32) &&& 31)).toInt8.toInt32)), (.int (((own_lo x2) >>> ((8 : Int32) &&& 31)).toInt8.toInt32))] iZ) (z3 : Sta Z Z.heap s0 s3 "I" iZ) (z4 : Sta Z Z.heap s0 s4 "I" (.int 8)) :
    CtrN l Z mn26 jdk_52_method_5_code 2 (some .char) [] (⟨0, 0, 0, 0⟩ : Room) #[(.ref a1), (.int 1)] h0 [] (fun v h => v = some (.int (own_hi x2))) := by
  refine CtrN.intro (L0 := #[vr a1, vi 1]) (plainFor_of_name pn5) O0 (own_entry rfl) ?_
  intro p e s m below meth c T0 hy hml hret hlk hnm W0
  refine o_getS W0 (w107 hw) Via.refl (z1.ext W0.ox) 3 (hb hy d25_0) rfl ?_
  intro T1 W1
  refine o_ifY W1 28 (hb hy d25_3) (XT.i0_ne_t (by decide)) (by decide) rfl <| o_iloadN W1 29 (hb hy d25_28) rfl rfl <| o_iconst W1 (v := 1) 30 (hb hy d25_29) rfl rfl <| o_ishl W1 (v := 2) 31 (hb hy d25_30) (by decide) rfl <| o_istoreN W1 (L' := #[vr a1, vi 2]) 32 (hb hy d25_31) rfl rfl <| o_aloadN W1 33 (hb hy d25_32) rfl rfl rfl ?_
  refine o_iloadN W1 34 (hb hy d25_33) rfl rfl <| o_iinc W1 (v := 3) (L' := #[vr a1, vi 3]) 37 (hb hy d25_34) rfl (by decide) rfl rfl <| o_baload W1 z2 (x := (((own_hi x2) >>> ((0 : Int32) &&& 31)).toInt8.toInt32)) (i := 2) (by decide) (by decide) (by decide) rfl 38 (hb hy d25_37) rfl <| o_sipush W1 (v := 255) 41 (hb hy d25_38) (by decide) rfl <| o_iand W1 (v := ((((own_hi x2) >>> ((0 : Int32) &&& 31)).toInt8.toInt32) &&& 255)) 42 (hb hy d25_41) rfl rfl ?_
  refine o_getS W1 (w108 hw) Via.refl (z3.ext W1.ox) 45 (hb hy d25_42) rfl ?_
  intro T2 W2
  refine o_ishl W2 (v := (((((own_hi x2) >>> ((0 : Int32) &&& 31)).toInt8.toInt32) &&& 255) <<< ((0 : Int32) &&& 31))) 46 (hb hy d25_45) rfl rfl <| o_aloadN W2 47 (hb hy d25_46) rfl rfl rfl <| o_iloadN W2 48 (hb hy d25_47) rfl rfl <| o_baload W2 z2 (x := (((own_hi x2) >>> ((8 : Int32) &&& 31)).toInt8.toInt32)) (i := 3) (by decide) (by decide) (by decide) rfl 49 (hb hy d25_48) rfl <| o_sipush W2 (v := 255) 52 (hb hy d25_49) (by decide) rfl <| o_iand W2 (v := ((((own_hi x2) >>> ((8 : Int32) &&& 31)).toInt8.toInt32) &&& 255)) 53 (hb hy d25_52) rfl rfl ?_
  refine o_getS W2 (w109 hw) Via.refl (z4.ext W2.ox) 56 (hb hy d25_53) rfl ?_
  intro T3 W3
  refine o_ishl W3 (v := (((((own_hi x2) >>> ((8 : Int32) &&& 31)).toInt8.toInt32) &&& 255) <<< ((8 : Int32) &&& 31))) 57 (hb hy d25_56) rfl rfl <| o_ior W3 (v := ((((((own_hi x2) >>> ((0 : Int32) &&& 31)).toInt8.toInt32) &&& 255) <<< ((0 : Int32) &&& 31)) ||| (((((own_hi x2) >>> ((8 : Int32) &&& 31)).toInt8.toInt32) &&& 255) <<< ((8 : Int32) &&& 31)))) 58 (hb hy d25_57) rfl rfl <| o_i2c W3 (v := (own_hi x2)) 59 (hb hy d25_58) (own_join (own_hic _)) rfl ?_
  exact o_retN W3 hlk (t := .char) hret (by simp) (z' := (own_hi x2)) (own_i2cc (own_hic _)) (hb hy d25_59) (by decide) (by decide) rfl
theorem rm112 (l : Launch) {Z a0} (hw : HW Z a0) (a1 : Addr) (z0 : ClassId) (x1 x2 : Int32) (h0 : Heap) (O0 : Old Z Z.heap.size h0) (z1 : Arv Z h0 a1 z0 .char 3 [(.int x1), (.int (own_hi x2)), (.int (own_lo x2))] iZ) (hu3 : own_cp x1) (hc4 : x1 < (65536 : Int32)) (hc5 : ¬ ((255 : Int32) < x1)) (hu6 : own_cp x2) (hc7 : ¬ (x2 < (65536 : Int32))) (z2 : Sta Z Z.heap s0 s2 "Z" (.int 1)) (z3 : Sta Z Z.heap s0 s3 "I" iZ) (z4 : Sta Z Z.heap s0 s4 "I" (.int 8)) :
    CtrN l Z mn17 jdk_52_method_16_code 6 (some (.array .byte)) [] (⟨3, 2, 9, 40⟩ : Room) #[(.ref a1), iZ, (.int 3)] h0 [] (fun v h => ∃ r1 : Addr, ∃ r2 : ClassId, h0.size ≤ r1 ∧ Arv Z h r1 r2 .byte 6 [(.int (bH x1)), (.int (bL x1)), (.int (((own_hi x2) >>> ((0 : Int32) &&& 31)).toInt8.toInt32)), (.int (((own_hi x2) >>> ((8 : Int32) &&& 31)).toInt8.toInt32)), (.int (((own_lo x2) >>> ((0 : Int32) &&& 31)).toInt8.toInt32)), (.int (((own_lo x2) >>> ((8 : Int32) &&& 31)).toInt8.toInt32))] iZ ∧ v = some (.ref r1)) := by
  refine CtrN.intro (L0 := #[vr a1, vi 0, vi 3, un, un, un]) (plainFor_of_name pn5) O0 (own_entry rfl) ?_
  intro p e s m below meth c T0 hy hml hret hlk hnm W0
  refine o_iloadN W0 1 (hb hy d12_0) rfl rfl ?_
  refine o_newP W0 (aty := .byte) (w25 hw) tri (by decide) (cap := 3) (by decide) (by decide) 3 (hb hy d12_1) rfl (cells' := 1) (slots' := 3) rfl rfl (by decide) (by decide) (vs := [iZ, iZ, iZ]) (dv := iZ) rfl rfl ?_
  intro b1 T1 h1 k1 W1 E1 ge1 gz1 gb1 V1
  refine o_astoreN W1 (L' := #[vr a1, vi 0, vi 3, vr b1, un, un]) 4 (hb hy d12_3) rfl rfl rfl <| o_aloadN W1 5 (hb hy d12_4) rfl rfl rfl <| o_iloadN W1 6 (hb hy d12_5) rfl rfl <| o_aloadN W1 7 (hb hy d12_6) rfl rfl rfl <| o_iconst W1 (v := 0) 8 (hb hy d12_7) rfl rfl <| o_iloadN W1 9 (hb hy d12_8) rfl rfl ?_
  have c2 := (z1.ext E1)
  refine o_staticC W1 (w62 hw) (w63 hw) (w60 hw) (w64 hw) (by decide) (rm104 l hw a1 b1 z0 x1 x2 k1 h1 W1.old c2 hu3 hc4 hc5 V1 gz1 (own_ne z1.lt ge1) hu6 hc7) 0 1 3 (by decide) (by rw [hml]; rfl) (lenOf pd9 rfl) [] rfl rfl 12 (hb hy d12_9) rfl rfl rfl (allS ⟨gz1, (Or.inr gb1)⟩ all0) tri ?_
  intro v8 T8 h8 lo8 W8 K8 q8
  obtain ⟨P8_0, rfl⟩ := q8.2.2
  show Gl _ _ _ _ _ _ _ _ [(.int 1)]
  refine o_istore W8 (L' := #[vr a1, vi 0, vi 3, vr b1, vi 1, un]) 14 (hb hy d12_12) rfl rfl <| o_iload W8 16 (hb hy d12_14) rfl rfl <| o_iloadN W8 17 (hb hy d12_16) rfl rfl <| o_icmpN W8 20 (hb hy d12_17) (XT.ii_eq_f (by decide)) rfl <| o_aloadN W8 21 (hb hy d12_20) rfl rfl rfl <| o_iloadN W8 22 (hb hy d12_21) rfl rfl ?_
  refine o_iloadN W8 23 (hb hy d12_22) rfl rfl ?_
  have c9 := (c2.keep K8 (ninS (own_ne z1.lt ge1) nin0))
  refine o_staticC W8 (w94 hw) (w95 hw) (w60 hw) (w96 hw) (by decide) (rm110 l hw a1 z0 x1 x2 h8 W8.old c9 z2 z3 z4) 0 2 9 (by decide) (by rw [hml]; rfl) (lenOf pd10 rfl) [] rfl rfl 26 (hb hy d12_23) rfl rfl rfl all0 tri ?_
  intro v10 T10 h10 lo10 W10 K10 q10
  obtain ⟨r1_10, r2_10, P10_0, P10_1, rfl⟩ := q10.2.2
  show Gl _ _ _ _ _ _ _ _ [(.ref r1_10)]
  refine o_astore W10 (L' := #[vr a1, vi 0, vi 3, vr b1, vi 1, vr r1_10]) 28 (hb hy d12_26) rfl rfl rfl <| o_aload W10 30 (hb hy d12_28) rfl rfl rfl <| o_iload W10 32 (hb hy d12_30) rfl rfl ?_
  refine o_staticC W10 (w110 hw) (w111 hw) (w60 hw) (w112 hw) (by decide) (rm111 l hw r1_10 r2_10 x1 x2 h10 W10.old z2 P10_1 z3 z4) 0 2 9 (by decide) (by rw [hml]; rfl) (lenOf pd17 rfl) [] rfl rfl 35 (hb hy d12_32) rfl rfl rfl all0 tri ?_
  intro v11 T11 h11 lo11 W11 K11 q11
  obtain rfl := q11.2.2
  show Gl _ _ _ _ _ _ _ _ [(.int (own_hi x2))]
  refine o_sipush W11 (v := 255) 38 (hb hy d12_35) (by decide) rfl <| o_icmpY W11 54 (hb hy d12_38) (XT.ii_gt_t (own_hiI (own_spI hu6 hc7)).2.2) (by decide) rfl <| o_aload W11 56 (hb hy d12_54) rfl rfl rfl ?_
  have c12 := (P10_1.keep K11 nin0)
  exact o_retA W11 hlk (v := (.ref r1_10)) hret rfl rfl (hb hy d12_56) (by decide) (by decide) ⟨r1_10, r2_10, (Nat.le_trans W8.keep.1 P10_0), c12, rfl⟩
theorem rm113 (l : Launch) {Z a0} (hw : HW Z a0) (a1 : Addr) (z0 : ClassId) (x1 x2 : Int32) (h0 : Heap) (O0 : Old Z Z.heap.size h0) (z1 : Arv Z h0 a1 z0 .byte 6 [(.int (bH x1)), (.int (bL x1)), (.int (((own_hi x2) >>> ((0 : Int32) &&& 31)).toInt8.toInt32)), (.int (((own_hi x2) >>> ((8 : Int32) &&& 31)).toInt8.toInt32)), (.int (((own_lo x2) >>> ((0 : Int32) &&& 31)).toInt8.toInt32)), (.int (((own_lo x2) >>> ((8 : Int32) &&& 31)).toInt8.toInt32))] iZ) :
    CtrN l Z mn18 jdk_52_method_15_code 2 (some .byte) [] (⟨0, 0, 0, 0⟩ : Room) #[(.ref a1), (.int 3)] h0 [] (fun v h => v = some (.int 1)) := by
  refine CtrN.intro (L0 := #[vr a1, vi 3]) (plainFor_of_name pn5) O0 (own_entry rfl) ?_
  intro p e s m below meth c T0 hy hml hret hlk hnm W0
  refine o_iloadN W0 1 (hb hy d14_0) rfl rfl <| o_aloadN W0 2 (hb hy d14_1) rfl rfl rfl <| o_len W0 z1 3 (hb hy d14_2) rfl <| o_isub W0 (v := (-3 : Int32)) 4 (hb hy d14_3) (by decide) rfl <| o_bipush W0 (v := 31) 6 (hb hy d14_4) (by decide) rfl <| o_iushr W0 (v := 1) 7 (hb hy d14_6) (by decide) rfl ?_
  refine o_i2b W0 (v := 1) 8 (hb hy d14_7) (by decide) rfl ?_
  exact o_retN W0 hlk (t := .byte) hret (by simp) (z' := (1 : Int32)) (by decide) (hb hy d14_8) (by decide) (by decide) rfl
theorem rm114 (l : Launch) {Z a0} (hw : HW Z a0) (gCS : Int32) (a1 a2 : Addr) (z0 : ClassId) (x1 x2 : Int32) (h0 : Heap) (O0 : Old Z Z.heap.size h0) (SgCS : Sta Z Z.heap s1 s5 "Z" (.int gCS)) (NgCS : ¬ (gCS = (0 : Int32))) (z1 : Arv Z h0 a2 z0 .char 3 [(.int x1), (.int (own_hi x2)), (.int (own_lo x2))] iZ) (hu3 : own_cp x1) (hc4 : x1 < (65536 : Int32)) (hc5 : ¬ ((255 : Int32) < x1)) (hu6 : own_cp x2) (hc7 : ¬ (x2 < (65536 : Int32))) (z2 : Sta Z Z.heap s0 s2 "Z" (.int 1)) (z3 : Sta Z Z.heap s0 s3 "I" iZ) (z4 : Sta Z Z.heap s0 s4 "I" (.int 8)) (z5 : Exa Z h0 a1 s1) (z6 : Fld Z h0 a1 s1 "coder" "B" iZ) (z7 : Z.heap.size ≤ a1) (z8 : Fld Z h0 a1 s1 "value" "[B" .null) :
    CtrN l Z mn8 jdk_42_method_149_code 6 none [] (⟨4, 2, 9, 57⟩ : Room) #[(.ref a1), (.ref a2), iZ, (.int 3), .null] h0 [a1] (fun v h => ∃ r1 : Addr, ∃ r2 : ClassId, h0.size ≤ r1 ∧ Fld Z h a1 s1 "coder" "B" (.int 1) ∧ Fld Z h a1 s1 "value" "[B" (.ref r1) ∧ Arv Z h r1 r2 .byte 6 [(.int (bH x1)), (.int (bL x1)), (.int (((own_hi x2) >>> ((0 : Int32) &&& 31)).toInt8.toInt32)), (.int (((own_hi x2) >>> ((8 : Int32) &&& 31)).toInt8.toInt32)), (.int (((own_lo x2) >>> ((0 : Int32) &&& 31)).toInt8.toInt32)), (.int (((own_lo x2) >>> ((8 : Int32) &&& 31)).toInt8.toInt32))] iZ ∧ v = none) := by
  refine CtrN.intro (L0 := #[vr a1, vr a2, vi 0, vi 3, .val .null, un]) (plainFor_of_name pn2) O0 (own_entry rfl) ?_
  intro p e s m below meth c T0 hy hml hret hlk hnm W0
  refine o_aloadN W0 1 (hb hy d4_0) rfl rfl rfl ?_
  refine o_initO W0 (w21 hw) (w22 hw) (w23 hw) (by rw [hml]; rfl) 4 (hb hy d4_1) rfl (by decide) 0 (by exact Nat.le_of_eq rfl) (by decide) ?_
  intro T1 W1
  refine o_iloadN W1 5 (hb hy d4_4) rfl rfl <| o_ifY W1 27 (hb hy d4_5) (XT.i0_ne_t (by decide)) (by decide) rfl ?_
  refine o_getS W1 (w49 hw) Via.refl (SgCS.ext W1.ox) 30 (hb hy d4_27) rfl ?_
  intro T2 W2
  refine o_ifN W2 33 (hb hy d4_30) (XT.i0_eq_f NgCS) rfl <| o_aloadN W2 34 (hb hy d4_33) rfl rfl rfl <| o_iloadN W2 35 (hb hy d4_34) rfl rfl <| o_iloadN W2 36 (hb hy d4_35) rfl rfl ?_
  refine o_staticC W2 (w58 hw) (w59 hw) (w60 hw) (w61 hw) (by decide) (rm112 l hw a2 z0 x1 x2 h0 W2.old z1 hu3 hc4 hc5 hu6 hc7 z2 z3 z4) 0 2 9 (by decide) (by rw [hml]; rfl) (lenOf pd10 rfl) [] rfl rfl 39 (hb hy d4_36) rfl rfl rfl all0 tri ?_
  intro v8 T8 h8 lo8 W8 K8 q8
  obtain ⟨r1_8, r2_8, P8_0, P8_1, rfl⟩ := q8.2.2
  show Gl _ _ _ _ _ _ _ _ [(.ref r1_8)]
  refine o_astore W8 (L' := #[vr a1, vr a2, vi 0, vi 3, .val .null, vr r1_8]) 41 (hb hy d4_39) rfl rfl rfl <| o_aloadN W8 42 (hb hy d4_41) rfl rfl rfl <| o_aload W8 44 (hb hy d4_42) rfl rfl rfl <| o_iloadN W8 45 (hb hy d4_44) rfl rfl ?_
  refine o_staticC W8 (w65 hw) (w66 hw) (w60 hw) (w67 hw) (by decide) (rm113 l hw r1_8 r2_8 x1 x2 h8 W8.old P8_1) 1 2 9 (by decide) (by rw [hml]; rfl) (lenOf pd11 rfl) [(.ref a1)] rfl rfl 48 (hb hy d4_45) rfl rfl rfl all0 tri ?_
  intro v9 T9 h9 lo9 W9 K9 q9
  obtain rfl := q9.2.2
  show Gl _ _ _ _ _ _ _ _ [(.int 1), (.ref a1)]
  have c10 := ((z5.keep K8).keep K9)
  have c11 := ((z6.keep K8 nin0).keep K9 nin0)
  refine o_putF W9 (w31 hw) Via.refl c11 c10 (Or.inr ⟨(w27 hw), rfl, hnm⟩) (w11 hw) (ty := .byte) (v' := (.int 1)) (by decide) rfl (by decide) z7 m0 tri 51 (hb hy d4_48) rfl ?_
  intro T12 h12 lo12 W12 R12
  have F12 := c11.same R12
  refine o_aloadN W12 52 (hb hy d4_51) rfl rfl rfl <| o_aload W12 54 (hb hy d4_52) rfl rfl rfl ?_
  have c13 := (c10.wr R12)
  have c14 := (((z8.keep K8 nin0).keep K9 nin0).other R12 (Or.inr (slot_ne (Or.inr (w26 hw)) (Or.inr (w27 hw)) (by decide) (t := (.array .byte)) (t' := .byte) (by decide) (by decide))))
  refine o_putF W12 (w30 hw) Via.refl c14 c13 (Or.inr ⟨(w26 hw), rfl, hnm⟩) (w11 hw) (ty := (.array .byte)) (v' := (.ref r1_8)) (by decide) rfl rfl z7 m0 tri 57 (hb hy d4_54) rfl ?_
  intro T15 h15 lo15 W15 R15
  have F15 := c14.same R15
  have c16 := (F12.other R15 (Or.inr (slot_ne (Or.inr (w27 hw)) (Or.inr (w26 hw)) (by decide) (t := .byte) (t' := (.array .byte)) (by decide) (by decide))))
  have c17 := (c13.wr R15)
  have c18 := (((P8_1.keep K9 nin0).other R12 (own_ne' z5.lt P8_0)).other R15 (own_ne' z5.lt P8_0))
  exact o_ret0 W15 hlk hret (hb hy d4_57) (by decide) (by decide) ⟨r1_8, r2_8, (Nat.le_trans W2.keep.1 P8_0), c16, F15, c18, rfl⟩
theorem rm115 (l : Launch) {Z a0} (hw : HW Z a0) (gCS : Int32) (a1 a2 : Addr) (z0 : ClassId) (x1 x2 : Int32) (h0 : Heap) (O0 : Old Z Z.heap.size h0) (z1 : Arv Z h0 a2 z0 .char 3 [(.int x1), (.int (own_hi x2)), (.int (own_lo x2))] iZ) (SgCS : Sta Z Z.heap s1 s5 "Z" (.int gCS)) (NgCS : ¬ (gCS = (0 : Int32))) (hu1 : own_cp x1) (hc2 : x1 < (65536 : Int32)) (hc3 : ¬ ((255 : Int32) < x1)) (hu4 : own_cp x2) (hc5 : ¬ (x2 < (65536 : Int32))) (z2 : Sta Z Z.heap s0 s2 "Z" (.int 1)) (z3 : Sta Z Z.heap s0 s3 "I" iZ) (z4 : Sta Z Z.heap s0 s4 "I" (.int 8)) (z5 : Exa Z h0 a1 s1) (z6 : Fld Z h0 a1 s1 "coder" "B" iZ) (z7 : Fld Z h0 a1 s1 "value" "[B" .null) (z8 : Z.heap.size ≤ a1) :
    CtrN l Z mn9 jdk_42_method_3_code 2 none [] (⟨5, 2, 9, 74⟩ : Room) #[(.ref a1), (.ref a2)] h0 [a1] (fun v h => ∃ r1 : Addr, ∃ r2 : ClassId, h0.size ≤ r1 ∧ Fld Z h a1 s1 "coder" "B" (.int 1) ∧ Fld Z h a1 s1 "value" "[B" (.ref r1) ∧ Arv Z h r1 r2 .byte 6 [(.int (bH x1)), (.int (bL x1)), (.int (((own_hi x2) >>> ((0 : Int32) &&& 31)).toInt8.toInt32)), (.int (((own_hi x2) >>> ((8 : Int32) &&& 31)).toInt8.toInt32)), (.int (((own_lo x2) >>> ((0 : Int32) &&& 31)).toInt8.toInt32)), (.int (((own_lo x2) >>> ((8 : Int32) &&& 31)).toInt8.toInt32))] iZ ∧ v = none) := by
  refine CtrN.intro (L0 := #[vr a1, vr a2]) (plainFor_of_name pn2) O0 (own_entry rfl) ?_
  intro p e s m below meth c T0 hy hml hret hlk hnm W0
  refine o_aloadN W0 1 (hb hy d3_0) rfl rfl rfl <| o_aloadN W0 2 (hb hy d3_1) rfl rfl rfl <| o_iconst W0 (v := 0) 3 (hb hy d3_2) rfl rfl <| o_aloadN W0 4 (hb hy d3_3) rfl rfl rfl <| o_len W0 z1 5 (hb hy d3_4) rfl ?_
  refine o_aconstNull W0 6 (hb hy d3_5) rfl ?_
  refine o_specialC W0 rfl (w17 hw) (w18 hw) (w20 hw) (by decide) (w12 hw) (rm114 l hw gCS a1 a2 z0 x1 x2 h0 W0.old SgCS NgCS z1 hu1 hc2 hc3 hu4 hc5 z2 z3 z4 z5 z6 z8 z7) 0 2 9 (by decide) (by rw [hml]; rfl) (lenOf pd1 rfl) [] rfl rfl 9 (hb hy d3_6) rfl rfl rfl (allS ⟨z8, m0⟩ all0) tri ?_
  intro v6 T6 h6 lo6 W6 K6 q6
  obtain ⟨r1_6, r2_6, P6_0, P6_1, P6_2, P6_3, rfl⟩ := q6.2.2
  show Gl _ _ _ _ _ _ _ _ []
  have c7 := (z5.keep K6)
  exact o_ret0 W6 hlk hret (hb hy d3_9) (by decide) (by decide) ⟨r1_6, r2_6, (Nat.le_trans W0.keep.1 P6_0), P6_1, P6_2, P6_3, rfl⟩
theorem rm116 (l : Launch) {Z a0} (hw : HW Z a0) (gCS : Int32) (a1 a2 : Addr) (z0 : ClassId) (x1 x2 : Int32) (h0 : Heap) (O0 : Old Z Z.heap.size h0) (z1 : Fld Z h0 a1 s1 "value" "[B" (.ref a2)) (z2 : Arv Z h0 a2 z0 .byte 6 [(.int (bH x1)), (.int (bL x1)), (.int (((own_hi x2) >>> ((0 : Int32) &&& 31)).toInt8.toInt32)), (.int (((own_hi x2) >>> ((8 : Int32) &&& 31)).toInt8.toInt32)), (.int (((own_lo x2) >>> ((0 : Int32) &&& 31)).toInt8.toInt32)), (.int (((own_lo x2) >>> ((8 : Int32) &&& 31)).toInt8.toInt32))] iZ) (z3 : Exa Z h0 a1 s1) (SgCS : Sta Z Z.heap s1 s5 "Z" (.int gCS)) (NgCS : ¬ (gCS = (0 : Int32))) (z4 : Fld Z h0 a1 s1 "coder" "B" (.int 1)) :
    CtrN l Z mn0 jdk_42_method_54_code 1 (some .int) [] (⟨1, 0, 0, 14⟩ : Room) #[(.ref a1)] h0 [] (fun v h => v = some (.int 3)) := by
  refine CtrN.intro (L0 := #[vr a1]) (plainFor_of_name pn2) O0 (own_entry rfl) ?_
  intro p e s m below meth c T0 hy hml hret hlk hnm W0
  refine o_aloadN W0 1 (hb hy d8_0) rfl rfl rfl ?_
  refine o_getF W0 (w30 hw) Via.refl z1 4 (hb hy d8_1) rfl ?_
  intro T1 W1
  refine o_len W1 z2 5 (hb hy d8_4) rfl <| o_aloadN W1 6 (hb hy d8_5) rfl rfl rfl ?_
  refine o_virtualC W1 (w44 hw) (w45 hw) (o_nf W1 rfl (w47 hw)) (w47 hw) (w46 hw) (by decide) z3 (w48 hw) (w12 hw) (rm37 l hw gCS a1 h0 W1.old SgCS NgCS z4) 1 0 0 (by decide) (by rw [hml]; rfl) (lenOf pd3 rfl) [(.int 6)] rfl rfl 9 (hb hy d8_6) rfl rfl rfl all0 tri ?_
  intro v2 T2 h2 lo2 W2 K2 q2
  obtain rfl := q2.2.2
  show Gl _ _ _ _ _ _ _ _ [(.int 1), (.int 6)]
  refine o_ishr W2 (v := 3) 10 (hb hy d8_9) (by decide) rfl ?_
  exact o_retI W2 hlk hret (hb hy d8_10) (by decide) (by decide) rfl
theorem rm117 (l : Launch) {Z a0} (hw : HW Z a0)  (h0 : Heap) (O0 : Old Z Z.heap.size h0) :
    CtrN l Z mn20 jdk_41_method_11_code 3 (some .int) [] (⟨0, 0, 0, 0⟩ : Room) #[iZ, (.int 3), .null] h0 [] (fun v h => v = some iZ) := by
  refine CtrN.intro (L0 := #[vi 0, vi 3, .val .null]) (plainFor_of_name pn6) O0 (own_entry rfl) ?_
  intro p e s m below meth c T0 hy hml hret hlk hnm W0
  refine o_iloadN W0 1 (hb hy d18_0) rfl rfl <| o_ifN W0 4 (hb hy d18_1) (XT.i0_lt_f (by decide)) rfl <| o_iloadN W0 5 (hb hy d18_4) rfl rfl <| o_iloadN W0 6 (hb hy d18_5) rfl rfl <| o_icmpY W0 16 (hb hy d18_6) (XT.ii_lt_t (by decide)) (by decide) rfl <| o_iloadN W0 17 (hb hy d18_16) rfl rfl ?_
  exact o_retI W0 hlk hret (hb hy d18_17) (by decide) (by decide) rfl
theorem rm118 (l : Launch) {Z a0} (hw : HW Z a0) (a1 : Addr) (h0 : Heap) (O0 : Old Z Z.heap.size h0) :
    CtrN l Z mn20 jdk_41_method_11_code 3 (some .int) [] (⟨0, 0, 0, 0⟩ : Room) #[iZ, (.int 3), (.ref a1)] h0 [] (fun v h => v = some iZ) := by
  refine CtrN.intro (L0 := #[vi 0, vi 3, vr a1]) (plainFor_of_name pn6) O0 (own_entry rfl) ?_
  intro p e s m below meth c T0 hy hml hret hlk hnm W0
  refine o_iloadN W0 1 (hb hy d18_0) rfl rfl <| o_ifN W0 4 (hb hy d18_1) (XT.i0_lt_f (by decide)) rfl <| o_iloadN W0 5 (hb hy d18_4) rfl rfl <| o_iloadN W0 6 (hb hy d18_5) rfl rfl <| o_icmpY W0 16 (hb hy d18_6) (XT.ii_lt_t (by decide)) (by decide) rfl <| o_iloadN W0 17 (hb hy d18_16) rfl rfl ?_
  exact o_retI W0 hlk hret (hb hy d18_17) (by decide) (by decide) rfl
theorem rm119 (l : Launch) {Z a0} (hw : HW Z a0) (gF : Value) (h0 : Heap) (O0 : Old Z Z.heap.size h0) (SgF : Sta Z Z.heap s6 s7 s8 gF) (NgF : gF.isRef = true) :
    CtrN l Z mn21 jdk_42_method_155_code 2 none [] (⟨1, 0, 0, 14⟩ : Room) #[iZ, (.int 3)] h0 [] (fun v h => v = none) := by
  refine CtrN.intro (L0 := #[vi 0, vi 3]) (plainFor_of_name pn2) O0 (own_entry rfl) ?_
  intro p e s m below meth c T0 hy hml hret hlk hnm W0
  refine o_iloadN W0 1 (hb hy d17_0) rfl rfl <| o_iloadN W0 2 (hb hy d17_1) rfl rfl ?_
  rcases ref_cases NgF with rfl | ⟨aF1, rfl⟩
  · refine o_getS W0 (w81 hw) Via.refl (SgF.ext W0.ox) 5 (hb hy d17_2) rfl ?_
    intro T2 W2
    refine o_staticC W2 (w83 hw) (w84 hw) (w82 hw) (w85 hw) (by decide) (rm117 l hw  h0 W2.old ) 0 0 0 (by decide) (by rw [hml]; rfl) (lenOf pd13 rfl) [] rfl rfl 8 (hb hy d17_5) rfl rfl rfl all0 tri ?_
    intro v3 T3 h3 lo3 W3 K3 q3
    obtain rfl := q3.2.2
    show Gl _ _ _ _ _ _ _ _ [iZ]
    refine o_pop W3 9 (hb hy d17_8) rfl rfl ?_
    exact o_ret0 W3 hlk hret (hb hy d17_9) (by decide) (by decide) rfl
  · refine o_getS W0 (w81 hw) Via.refl (SgF.ext W0.ox) 5 (hb hy d17_2) rfl ?_
    intro T4 W4
    refine o_staticC W4 (w83 hw) (w84 hw) (w82 hw) (w85 hw) (by decide) (rm118 l hw aF1 h0 W4.old ) 0 0 0 (by decide) (by rw [hml]; rfl) (lenOf pd13 rfl) [] rfl rfl 8 (hb hy d17_5) rfl rfl rfl all0 tri ?_
    intro v5 T5 h5 lo5 W5 K5 q5
    obtain rfl := q5.2.2
    show Gl _ _ _ _ _ _ _ _ [iZ]
    refine o_pop W5 9 (hb hy d17_8) rfl rfl ?_
    exact o_ret0 W5 hlk hret (hb hy d17_9) (by decide) (by decide) rfl
theorem rm120 (l : Launch) {Z a0} (hw : HW Z a0) (a1 : Addr) (z0 : ClassId) (x1 x2 : Int32) (h0 : Heap) (O0 : Old Z Z.heap.size h0) (z1 : Sta Z Z.heap s0 s2 "Z" (.int 1)) (z2 : Arv Z h0 a1 z0 .byte 6 [(.int (bH x1)), (.int (bL x1)), (.int (((own_hi x2) >>> ((0 : Int32) &&& 31)).toInt8.toInt32)), (.int (((own_hi x2) >>> ((8 : Int32) &&& 31)).toInt8.toInt32)), (.int (((own_lo x2) >>> ((0 : Int32) &&& 31)).toInt8.toInt32)), (.int (((own_lo x2) >>> ((8 : Int32) &&& 31)).toInt8.toInt32))] iZ) (z3 : Sta Z Z.heap s0 s3 "I" iZ) (z4 : Sta Z Z.heap s0 s4 "I" (.int 8)) (hu4 : own_cp x1) (hc5 : x1 < (65536 : Int32)) :
    CtrN l Z mn26 jdk_52_method_5_code 2 (some .char) [] (⟨0, 0, 0, 0⟩ : Room) #[(.ref a1), iZ] h0 [] (fun v h => v = some (.int x1)) := by
  refine CtrN.intro (L0 := #[vr a1, vi 0]) (plainFor_of_name pn5) O0 (own_entry rfl) ?_
  intro p e s m below meth c T0 hy hml hret hlk hnm W0
  refine o_getS W0 (w107 hw) Via.refl (z1.ext W0.ox) 3 (hb hy d25_0) rfl ?_
  intro T1 W1
  refine o_ifY W1 28 (hb hy d25_3) (XT.i0_ne_t (by decide)) (by decide) rfl <| o_iloadN W1 29 (hb hy d25_28) rfl rfl <| o_iconst W1 (v := 1) 30 (hb hy d25_29) rfl rfl <| o_ishl W1 (v := 0) 31 (hb hy d25_30) (by decide) rfl <| o_istoreN W1 (L' := #[vr a1, vi 0]) 32 (hb hy d25_31) rfl rfl <| o_aloadN W1 33 (hb hy d25_32) rfl rfl rfl ?_
  refine o_iloadN W1 34 (hb hy d25_33) rfl rfl <| o_iinc W1 (v := 1) (L' := #[vr a1, vi 1]) 37 (hb hy d25_34) rfl (by decide) rfl rfl <| o_baload W1 z2 (x := (bH x1)) (i := 0) (by decide) (by decide) (by decide) rfl 38 (hb hy d25_37) rfl <| o_sipush W1 (v := 255) 41 (hb hy d25_38) (by decide) rfl <| o_iand W1 (v := ((bH x1) &&& 255)) 42 (hb hy d25_41) rfl rfl ?_
  refine o_getS W1 (w108 hw) Via.refl (z3.ext W1.ox) 45 (hb hy d25_42) rfl ?_
  intro T2 W2
  refine o_ishl W2 (v := (((bH x1) &&& 255) <<< ((0 : Int32) &&& 31))) 46 (hb hy d25_45) rfl rfl <| o_aloadN W2 47 (hb hy d25_46) rfl rfl rfl <| o_iloadN W2 48 (hb hy d25_47) rfl rfl <| o_baload W2 z2 (x := (bL x1)) (i := 1) (by decide) (by decide) (by decide) rfl 49 (hb hy d25_48) rfl <| o_sipush W2 (v := 255) 52 (hb hy d25_49) (by decide) rfl <| o_iand W2 (v := ((bL x1) &&& 255)) 53 (hb hy d25_52) rfl rfl ?_
  refine o_getS W2 (w109 hw) Via.refl (z4.ext W2.ox) 56 (hb hy d25_53) rfl ?_
  intro T3 W3
  refine o_ishl W3 (v := (((bL x1) &&& 255) <<< ((8 : Int32) &&& 31))) 57 (hb hy d25_56) rfl rfl <| o_ior W3 (v := ((((bH x1) &&& 255) <<< ((0 : Int32) &&& 31)) ||| (((bL x1) &&& 255) <<< ((8 : Int32) &&& 31)))) 58 (hb hy d25_57) rfl rfl <| o_i2c W3 (v := x1) 59 (hb hy d25_58) (own_join (own_cpc hu4 hc5)) rfl ?_
  exact o_retN W3 hlk (t := .char) hret (by simp) (z' := x1) (own_i2cc (own_cpc hu4 hc5)) (hb hy d25_59) (by decide) (by decide) rfl
theorem rm121 (l : Launch) {Z a0} (hw : HW Z a0) (a1 : Addr) (z0 : ClassId) (x1 x2 : Int32) (h0 : Heap) (O0 : Old Z Z.heap.size h0) (z1 : Sta Z Z.heap s0 s2 "Z" (.int 1)) (z2 : Arv Z h0 a1 z0 .byte 6 [(.int (bH x1)), (.int (bL x1)), (.int (((own_hi x2) >>> ((0 : Int32) &&& 31)).toInt8.toInt32)), (.int (((own_hi x2) >>> ((8 : Int32) &&& 31)).toInt8.toInt32)), (.int (((own_lo x2) >>> ((0 : Int32) &&& 31)).toInt8.toInt32)), (.int (((own_lo x2) >>> ((8 : Int32) &&& 31)).toInt8.toInt32))] iZ) (z3 : Sta Z Z.heap s0 s3 "I" iZ) (z4 : Sta Z Z.heap s0 s4 "I" (.int 8)) (hu2 : own_cp x1) (hc3 : x1 < (65536 : Int32)) (hu6 : own_nh x1) :
    CtrN l Z mn27 jdk_52_method_7_code 6 (some .int) [] (⟨1, 0, 0, 13⟩ : Room) #[(.ref a1), iZ, (.int 3), iZ] h0 [] (fun v h => v = some (.int x1)) := by
  refine CtrN.intro (L0 := #[vr a1, vi 0, vi 3, vi 0, un, un]) (plainFor_of_name pn5) O0 (own_entry rfl) ?_
  intro p e s m below meth c T0 hy hml hret hlk hnm W0
  refine o_getS W0 (w107 hw) Via.refl (z1.ext W0.ox) 3 (hb hy d28_0) rfl ?_
  intro T1 W1
  refine o_ifY W1 19 (hb hy d28_3) (XT.i0_ne_t (by decide)) (by decide) rfl <| o_iloadN W1 20 (hb hy d28_19) rfl rfl <| o_ifY W1 28 (hb hy d28_20) (XT.i0_eq_t (by decide)) (by decide) rfl <| o_aloadN W1 29 (hb hy d28_28) rfl rfl rfl <| o_iloadN W1 30 (hb hy d28_29) rfl rfl ?_
  refine o_staticC W1 (w110 hw) (w111 hw) (w60 hw) (w112 hw) (by decide) (rm120 l hw a1 z0 x1 x2 h0 W1.old z1 z2 z3 z4 hu2 hc3) 0 0 0 (by decide) (by rw [hml]; rfl) (lenOf pd17 rfl) [] rfl rfl 33 (hb hy d28_30) rfl rfl rfl all0 tri ?_
  intro v4 T4 h4 lo4 W4 K4 q4
  obtain rfl := q4.2.2
  show Gl _ _ _ _ _ _ _ _ [(.int x1)]
  refine o_istore W4 (L' := #[vr a1, vi 0, vi 3, vi 0, vi x1, un]) 35 (hb hy d28_33) rfl rfl <| o_iload W4 37 (hb hy d28_35) rfl rfl ?_
  refine o_staticC W4 (w124 hw) (w125 hw) (w115 hw) (w126 hw) (by decide) (rm4 l hw x1 h4 W4.old ) 0 0 0 (by decide) (by rw [hml]; rfl) (lenOf pd18 rfl) [] rfl rfl 40 (hb hy d28_37) rfl rfl rfl all0 tri ?_
  intro v5 T5 h5 lo5 W5 K5 q5
  obtain rfl := q5.2.2
  show Gl _ _ _ _ _ _ _ _ [(.int (own_hs x1))]
  refine o_ifY W5 83 (hb hy d28_40) (XT.i0_eq_t (own_hsN hu6)) (by decide) rfl <| o_iload W5 85 (hb hy d28_83) rfl rfl ?_
  exact o_retI W5 hlk hret (hb hy d28_85) (by decide) (by decide) rfl
theorem rm122 (l : Launch) {Z a0} (hw : HW Z a0) (a1 : Addr) (z0 : ClassId) (x1 x2 : Int32) (h0 : Heap) (O0 : Old Z Z.heap.size h0) (z1 : Sta Z Z.heap s0 s2 "Z" (.int 1)) (z2 : Arv Z h0 a1 z0 .byte 6 [(.int (bH x1)), (.int (bL x1)), (.int (((own_hi x2) >>> ((0 : Int32) &&& 31)).toInt8.toInt32)), (.int (((own_hi x2) >>> ((8 : Int32) &&& 31)).toInt8.toInt32)), (.int (((own_lo x2) >>> ((0 : Int32) &&& 31)).toInt8.toInt32)), (.int (((own_lo x2) >>> ((8 : Int32) &&& 31)).toInt8.toInt32))] iZ) (z3 : Sta Z Z.heap s0 s3 "I" iZ) (z4 : Sta Z Z.heap s0 s4 "I" (.int 8)) (hu1 : own_cp x1) (hc2 : x1 < (65536 : Int32)) (hu3 : own_nh x1) :
    CtrN l Z mn28 jdk_52_method_8_code 3 (some .int) [] (⟨2, 0, 0, 30⟩ : Room) #[(.ref a1), iZ, (.int 3)] h0 [] (fun v h => v = some (.int x1)) := by
  refine CtrN.intro (L0 := #[vr a1, vi 0, vi 3]) (plainFor_of_name pn5) O0 (own_entry rfl) ?_
  intro p e s m below meth c T0 hy hml hret hlk hnm W0
  refine o_aloadN W0 1 (hb hy d27_0) rfl rfl rfl <| o_iloadN W0 2 (hb hy d27_1) rfl rfl <| o_iloadN W0 3 (hb hy d27_2) rfl rfl <| o_iconst W0 (v := 0) 4 (hb hy d27_3) rfl rfl ?_
  refine o_staticC W0 (w121 hw) (w122 hw) (w60 hw) (w123 hw) (by decide) (rm121 l hw a1 z0 x1 x2 h0 W0.old z1 z2 z3 z4 hu1 hc2 hu3) 0 0 0 (by decide) (by rw [hml]; rfl) (lenOf pd19 rfl) [] rfl rfl 7 (hb hy d27_4) rfl rfl rfl all0 tri ?_
  intro v4 T4 h4 lo4 W4 K4 q4
  obtain rfl := q4.2.2
  show Gl _ _ _ _ _ _ _ _ [(.int x1)]
  exact o_retI W4 hlk hret (hb hy d27_7) (by decide) (by decide) rfl
theorem rm123 (l : Launch) {Z a0} (hw : HW Z a0) (gCS : Int32) (gF : Value) (a1 a2 : Addr) (z0 : ClassId) (x1 x2 : Int32) (h0 : Heap) (O0 : Old Z Z.heap.size h0) (z1 : Exa Z h0 a1 s1) (SgCS : Sta Z Z.heap s1 s5 "Z" (.int gCS)) (NgCS : ¬ (gCS = (0 : Int32))) (z2 : Fld Z h0 a1 s1 "coder" "B" (.int 1)) (z3 : Fld Z h0 a1 s1 "value" "[B" (.ref a2)) (z4 : Arv Z h0 a2 z0 .byte 6 [(.int (bH x1)), (.int (bL x1)), (.int (((own_hi x2) >>> ((0 : Int32) &&& 31)).toInt8.toInt32)), (.int (((own_hi x2) >>> ((8 : Int32) &&& 31)).toInt8.toInt32)), (.int (((own_lo x2) >>> ((0 : Int32) &&& 31)).toInt8.toInt32)), (.int (((own_lo x2) >>> ((8 : Int32) &&& 31)).toInt8.toInt32))] iZ) (SgF : Sta Z Z.heap s6 s7 s8 gF) (NgF : gF.isRef = true) (z5 : Sta Z Z.heap s0 s2 "Z" (.int 1)) (z6 : Sta Z Z.heap s0 s3 "I" iZ) (z7 : Sta Z Z.heap s0 s4 "I" (.int 8)) (hu9 : own_cp x1) (hc10 : x1 < (65536 : Int32)) (hu11 : own_nh x1) :
    CtrN l Z mn1 jdk_42_method_57_code 3 (some .int) [] (⟨6, 0, 0, 90⟩ : Room) #[(.ref a1), iZ] h0 [] (fun v h => v = some (.int x1)) := by
  refine CtrN.intro (L0 := #[vr a1, vi 0, un]) (plainFor_of_name pn2) O0 (own_entry rfl) ?_
  intro p e s m below meth c T0 hy hml hret hlk hnm W0
  refine o_aloadN W0 1 (hb hy d15_0) rfl rfl rfl ?_
  refine o_virtualC W0 (w73 hw) (w74 hw) (o_nf W0 rfl (w76 hw)) (w76 hw) (w75 hw) (by decide) z1 (w77 hw) (w12 hw) (rm39 l hw gCS a1 h0 W0.old SgCS NgCS z2) 0 0 0 (by decide) (by rw [hml]; rfl) (lenOf pd12 rfl) [] rfl rfl 4 (hb hy d15_1) rfl rfl rfl all0 tri ?_
  intro v1 T1 h1 lo1 W1 K1 q1
  obtain rfl := q1.2.2
  show Gl _ _ _ _ _ _ _ _ [iZ]
  refine o_ifY W1 27 (hb hy d15_4) (XT.i0_eq_t (by decide)) (by decide) rfl <| o_aloadN W1 28 (hb hy d15_27) rfl rfl rfl ?_
  have c2 := (z3.keep K1 nin0)
  refine o_getF W1 (w30 hw) Via.refl c2 31 (hb hy d15_28) rfl ?_
  intro T3 W3
  have c4 := (z4.keep K1 nin0)
  refine o_len W3 c4 32 (hb hy d15_31) rfl <| o_iconst W3 (v := 1) 33 (hb hy d15_32) rfl rfl <| o_ishr W3 (v := 3) 34 (hb hy d15_33) (by decide) rfl <| o_istoreN W3 (L' := #[vr a1, vi 0, vi 3]) 35 (hb hy d15_34) rfl rfl <| o_iloadN W3 36 (hb hy d15_35) rfl rfl <| o_iloadN W3 37 (hb hy d15_36) rfl rfl ?_
  refine o_staticC W3 (w78 hw) (w79 hw) (w12 hw) (w80 hw) (by decide) (rm119 l hw gF h1 W3.old SgF NgF) 0 0 0 (by decide) (by rw [hml]; rfl) (lenOf pd14 rfl) [] rfl rfl 40 (hb hy d15_37) rfl rfl rfl all0 tri ?_
  intro v5 T5 h5 lo5 W5 K5 q5
  obtain rfl := q5.2.2
  show Gl _ _ _ _ _ _ _ _ []
  refine o_aloadN W5 41 (hb hy d15_40) rfl rfl rfl ?_
  have c6 := (c2.keep K5 nin0)
  refine o_getF W5 (w30 hw) Via.refl c6 44 (hb hy d15_41) rfl ?_
  intro T7 W7
  refine o_iloadN W7 45 (hb hy d15_44) rfl rfl <| o_iloadN W7 46 (hb hy d15_45) rfl rfl ?_
  have c8 := (c4.keep K5 nin0)
  refine o_staticC W7 (w118 hw) (w119 hw) (w60 hw) (w120 hw) (by decide) (rm122 l hw a2 z0 x1 x2 h5 W7.old z5 c8 z6 z7 hu9 hc10 hu11) 0 0 0 (by decide) (by rw [hml]; rfl) (lenOf pd20 rfl) [] rfl rfl 49 (hb hy d15_46) rfl rfl rfl all0 tri ?_
  intro v12 T12 h12 lo12 W12 K12 q12
  obtain rfl := q12.2.2
  show Gl _ _ _ _ _ _ _ _ [(.int x1)]
  exact o_retI W12 hlk hret (hb hy d15_49) (by decide) (by decide) rfl
theorem rm124 (l : Launch) {Z a0} (hw : HW Z a0)  (h0 : Heap) (O0 : Old Z Z.heap.size h0) :
    CtrN l Z mn20 jdk_41_method_11_code 3 (some .int) [] (⟨0, 0, 0, 0⟩ : Room) #[(.int 1), (.int 3), .null] h0 [] (fun v h => v = some (.int 1)) := by
  refine CtrN.intro (L0 := #[vi 1, vi 3, .val .null]) (plainFor_of_name pn6) O0 (own_entry rfl) ?_
  intro p e s m below meth c T0 hy hml hret hlk hnm W0
  refine o_iloadN W0 1 (hb hy d18_0) rfl rfl <| o_ifN W0 4 (hb hy d18_1) (XT.i0_lt_f (by decide)) rfl <| o_iloadN W0 5 (hb hy d18_4) rfl rfl <| o_iloadN W0 6 (hb hy d18_5) rfl rfl <| o_icmpY W0 16 (hb hy d18_6) (XT.ii_lt_t (by decide)) (by decide) rfl <| o_iloadN W0 17 (hb hy d18_16) rfl rfl ?_
  exact o_retI W0 hlk hret (hb hy d18_17) (by decide) (by decide) rfl
theorem rm125 (l : Launch) {Z a0} (hw : HW Z a0) (a1 : Addr) (h0 : Heap) (O0 : Old Z Z.heap.size h0) :
    CtrN l Z mn20 jdk_41_method_11_code 3 (some .int) [] (⟨0, 0, 0, 0⟩ : Room) #[(.int 1), (.int 3), (.ref a1)] h0 [] (fun v h => v = some (.int 1)) := by
  refine CtrN.intro (L0 := #[vi 1, vi 3, vr a1]) (plainFor_of_name pn6) O0 (own_entry rfl) ?_
  intro p e s m below meth c T0 hy hml hret hlk hnm W0
  refine o_iloadN W0 1 (hb hy d18_0) rfl rfl <| o_ifN W0 4 (hb hy d18_1) (XT.i0_lt_f (by decide)) rfl <| o_iloadN W0 5 (hb hy d18_4) rfl rfl <| o_iloadN W0 6 (hb hy d18_5) rfl rfl <| o_icmpY W0 16 (hb hy d18_6) (XT.ii_lt_t (by decide)) (by decide) rfl <| o_iloadN W0 17 (hb hy d18_16) rfl rfl ?_
  exact o_retI W0 hlk hret (hb hy d18_17) (by decide) (by decide) rfl
theorem rm126 (l : Launch) {Z a0} (hw : HW Z a0) (gF : Value) (h0 : Heap) (O0 : Old Z Z.heap.size h0) (SgF : Sta Z Z.heap s6 s7 s8 gF) (NgF : gF.isRef = true) :
    CtrN l Z mn21 jdk_42_method_155_code 2 none [] (⟨1, 0, 0, 14⟩ : Room) #[(.int 1), (.int 3)] h0 [] (fun v h => v = none) := by
  refine CtrN.intro (L0 := #[vi 1, vi 3]) (plainFor_of_name pn2) O0 (own_entry rfl) ?_
  intro p e s m below meth c T0 hy hml hret hlk hnm W0
  refine o_iloadN W0 1 (hb hy d17_0) rfl rfl <| o_iloadN W0 2 (hb hy d17_1) rfl rfl ?_
  rcases ref_cases NgF with rfl | ⟨aF1, rfl⟩
  · refine o_getS W0 (w81 hw) Via.refl (SgF.ext W0.ox) 5 (hb hy d17_2) rfl ?_
    intro T2 W2
    refine o_staticC W2 (w83 hw) (w84 hw) (w82 hw) (w85 hw) (by decide) (rm124 l hw  h0 W2.old ) 0 0 0 (by decide) (by rw [hml]; rfl) (lenOf pd13 rfl) [] rfl rfl 8 (hb hy d17_5) rfl rfl rfl all0 tri ?_
    intro v3 T3 h3 lo3 W3 K3 q3
    obtain rfl := q3.2.2
    show Gl _ _ _ _ _ _ _ _ [(.int 1)]
    refine o_pop W3 9 (hb hy d17_8) rfl rfl ?_
    exact o_ret0 W3 hlk hret (hb hy d17_9) (by decide) (by decide) rfl
  · refine o_getS W0 (w81 hw) Via.refl (SgF.ext W0.ox) 5 (hb hy d17_2) rfl ?_
    intro T4 W4
    refine o_staticC W4 (w83 hw) (w84 hw) (w82 hw) (w85 hw) (by decide) (rm125 l hw aF1 h0 W4.old ) 0 0 0 (by decide) (by rw [hml]; rfl) (lenOf pd13 rfl) [] rfl rfl 8 (hb hy d17_5) rfl rfl rfl all0 tri ?_
    intro v5 T5 h5 lo5 W5 K5 q5
    obtain rfl := q5.2.2
    show Gl _ _ _ _ _ _ _ _ [(.int 1)]
    refine o_pop W5 9 (hb hy d17_8) rfl rfl ?_
    exact o_ret0 W5 hlk hret (hb hy d17_9) (by decide) (by decide) rfl
theorem rm127 (l : Launch) {Z a0} (hw : HW Z a0) (a1 : Addr) (z0 : ClassId) (x1 x2 : Int32) (h0 : Heap) (O0 : Old Z Z.heap.size h0) (z1 : Sta Z Z.heap s0 s2 "Z" (.int 1)) (z2 : Arv Z h0 a1 z0 .byte 6 [(.int (bH x1)), (.int (bL x1)), (.int (((own_hi x2) >>> ((0 : Int32) &&& 31)).toInt8.toInt32)), (.int (((own_hi x2) >>> ((8 : Int32) &&& 31)).toInt8.toInt32)), (.int (((own_lo x2) >>> ((0 : Int32) &&& 31)).toInt8.toInt32)), (.int (((own_lo x2) >>> ((8 : Int32) &&& 31)).toInt8.toInt32))] iZ) (z3 : Sta Z Z.heap s0 s3 "I" iZ) (z4 : Sta Z Z.heap s0 s4 "I" (.int 8)) :
    CtrN l Z mn26 jdk_52_method_5_code 2 (some .char) [] (⟨0, 0, 0, 0⟩ : Room) #[(.ref a1), (.int 2)] h0 [] (fun v h => v = some (.int (own_lo x2))) := by
  refine CtrN.intro (L0 := #[vr a1, vi 2]) (plainFor_of_name pn5) O0 (own_entry rfl) ?_
  intro p e s m below meth c T0 hy hml hret hlk hnm W0
  refine o_getS W0 (w107 hw) Via.refl (z1.ext W0.ox) 3 (hb hy d25_0) rfl ?_
  intro T1 W1
  refine o_ifY W1 28 (hb hy d25_3) (XT.i0_ne_t (by decide)) (by decide) rfl <| o_iloadN W1 29 (hb hy d25_28) rfl rfl <| o_iconst W1 (v := 1) 30 (hb hy d25_29) rfl rfl <| o_ishl W1 (v := 4) 31 (hb hy d25_30) (by decide) rfl <| o_istoreN W1 (L' := #[vr a1, vi 4]) 32 (hb hy d25_31) rfl rfl <| o_aloadN W1 33 (hb hy d25_32) rfl rfl rfl ?_
  refine o_iloadN W1 34 (hb hy d25_33) rfl rfl <| o_iinc W1 (v := 5) (L' := #[vr a1, vi 5]) 37 (hb hy d25_34) rfl (by decide) rfl rfl <| o_baload W1 z2 (x := (((own_lo x2) >>> ((0 : Int32) &&& 31)).toInt8.toInt32)) (i := 4) (by decide) (by decide) (by decide) rfl 38 (hb hy d25_37) rfl <| o_sipush W1 (v := 255) 41 (hb hy d25_38) (by decide) rfl <| o_iand W1 (v := ((((own_lo x2) >>> ((0 : Int32) &&& 31)).toInt8.toInt32) &&& 255)) 42 (hb hy d25_41) rfl rfl ?_
  refine o_getS W1 (w108 hw) Via.refl (z3.ext W1.ox) 45 (hb hy d25_42) rfl ?_
  intro T2 W2
  refine o_ishl W2 (v := (((((own_lo x2) >>> ((0 : Int32) &&& 31)).toInt8.toInt32) &&& 255) <<< ((0 : Int32) &&& 31))) 46 (hb hy d25_45) rfl rfl <| o_aloadN W2 47 (hb hy d25_46) rfl rfl rfl <| o_iloadN W2 48 (hb hy d25_47) rfl rfl <| o_baload W2 z2 (x := (((own_lo x2) >>> ((8 : Int32) &&& 31)).toInt8.toInt32)) (i := 5) (by decide) (by decide) (by decide) rfl 49 (hb hy d25_48) rfl <| o_sipush W2 (v := 255) 52 (hb hy d25_49) (by decide) rfl <| o_iand W2 (v := ((((own_lo x2) >>> ((8 : Int32) &&& 31)).toInt8.toInt32) &&& 255)) 53 (hb hy d25_52) rfl rfl ?_
  refine o_getS W2 (w109 hw) Via.refl (z4.ext W2.ox) 56 (hb hy d25_53) rfl ?_
  intro T3 W3
  refine o_ishl W3 (v := (((((own_lo x2) >>> ((8 : Int32) &&& 31)).toInt8.toInt32) &&& 255) <<< ((8 : Int32) &&& 31))) 57 (hb hy d25_56) rfl rfl <| o_ior W3 (v := ((((((own_lo x2) >>> ((0 : Int32) &&& 31)).toInt8.toInt32) &&& 255) <<< ((0 : Int32) &&& 31)) ||| (((((own_lo x2) >>> ((8 : Int32) &&& 31)).toInt8.toInt32) &&& 255) <<< ((8 : Int32) &&& 31)))) 58 (hb hy d25_57) rfl rfl <| o_i2c W3 (v := (own_lo x2)) 59 (hb hy d25_58) (own_join (own_loc _)) rfl ?_
  exact o_retN W3 hlk (t := .char) hret (by simp) (z' := (own_lo x2)) (own_i2cc (own_loc _)) (hb hy d25_59) (by decide) (by decide) rfl
theorem rm128 (l : Launch) {Z a0} (hw : HW Z a0) (a1 : Addr) (z0 : ClassId) (x1 x2 : Int32) (h0 : Heap) (O0 : Old Z Z.heap.size h0) (z1 : Sta Z Z.heap s0 s2 "Z" (.int 1)) (z2 : Arv Z h0 a1 z0 .byte 6 [(.int (bH x1)), (.int (bL x1)), (.int (((own_hi x2) >>> ((0 : Int32) &&& 31)).toInt8.toInt32)), (.int (((own_hi x2) >>> ((8 : Int32) &&& 31)).toInt8.toInt32)), (.int (((own_lo x2) >>> ((0 : Int32) &&& 31)).toInt8.toInt32)), (.int (((own_lo x2) >>> ((8 : Int32) &&& 31)).toInt8.toInt32))] iZ) (z3 : Sta Z Z.heap s0 s3 "I" iZ) (z4 : Sta Z Z.heap s0 s4 "I" (.int 8)) (hu4 : own_cp x2) (hc5 : ¬ (x2 < (65536 : Int32))) :
    CtrN l Z mn27 jdk_52_method_7_code 6 (some .int) [] (⟨1, 0, 0, 13⟩ : Room) #[(.ref a1), (.int 1), (.int 3), iZ] h0 [] (fun v h => v = some (.int x2)) := by
  refine CtrN.intro (L0 := #[vr a1, vi 1, vi 3, vi 0, un, un]) (plainFor_of_name pn5) O0 (own_entry rfl) ?_
  intro p e s m below meth c T0 hy hml hret hlk hnm W0
  refine o_getS W0 (w107 hw) Via.refl (z1.ext W0.ox) 3 (hb hy d28_0) rfl ?_
  intro T1 W1
  refine o_ifY W1 19 (hb hy d28_3) (XT.i0_ne_t (by decide)) (by decide) rfl <| o_iloadN W1 20 (hb hy d28_19) rfl rfl <| o_ifY W1 28 (hb hy d28_20) (XT.i0_eq_t (by decide)) (by decide) rfl <| o_aloadN W1 29 (hb hy d28_28) rfl rfl rfl <| o_iloadN W1 30 (hb hy d28_29) rfl rfl ?_
  refine o_staticC W1 (w110 hw) (w111 hw) (w60 hw) (w112 hw) (by decide) (rm111 l hw a1 z0 x1 x2 h0 W1.old z1 z2 z3 z4) 0 0 0 (by decide) (by rw [hml]; rfl) (lenOf pd17 rfl) [] rfl rfl 33 (hb hy d28_30) rfl rfl rfl all0 tri ?_
  intro v2 T2 h2 lo2 W2 K2 q2
  obtain rfl := q2.2.2
  show Gl _ _ _ _ _ _ _ _ [(.int (own_hi x2))]
  refine o_istore W2 (L' := #[vr a1, vi 1, vi 3, vi 0, vi (own_hi x2), un]) 35 (hb hy d28_33) rfl rfl <| o_iload W2 37 (hb hy d28_35) rfl rfl ?_
  refine o_staticC W2 (w124 hw) (w125 hw) (w115 hw) (w126 hw) (by decide) (rm4 l hw (own_hi x2) h2 W2.old ) 0 0 0 (by decide) (by rw [hml]; rfl) (lenOf pd18 rfl) [] rfl rfl 40 (hb hy d28_37) rfl rfl rfl all0 tri ?_
  intro v3 T3 h3 lo3 W3 K3 q3
  obtain rfl := q3.2.2
  show Gl _ _ _ _ _ _ _ _ [(.int (own_hs (own_hi x2)))]
  refine o_ifN W3 43 (hb hy d28_40) (XT.i0_eq_f (own_hsY (own_spI hu4 hc5))) rfl <| o_iinc W3 (v := 2) (L' := #[vr a1, vi 2, vi 3, vi 0, vi (own_hi x2), un]) 46 (hb hy d28_43) rfl (by decide) rfl rfl <| o_iloadN W3 47 (hb hy d28_46) rfl rfl <| o_iloadN W3 48 (hb hy d28_47) rfl rfl <| o_icmpN W3 51 (hb hy d28_48) (XT.ii_ge_f (by decide)) rfl <| o_iloadN W3 52 (hb hy d28_51) rfl rfl ?_
  refine o_ifY W3 60 (hb hy d28_52) (XT.i0_eq_t (by decide)) (by decide) rfl <| o_aloadN W3 61 (hb hy d28_60) rfl rfl rfl <| o_iloadN W3 62 (hb hy d28_61) rfl rfl ?_
  have c6 := ((z2.keep K2 nin0).keep K3 nin0)
  refine o_staticC W3 (w110 hw) (w111 hw) (w60 hw) (w112 hw) (by decide) (rm127 l hw a1 z0 x1 x2 h3 W3.old z1 c6 z3 z4) 0 0 0 (by decide) (by rw [hml]; rfl) (lenOf pd17 rfl) [] rfl rfl 65 (hb hy d28_62) rfl rfl rfl all0 tri ?_
  intro v7 T7 h7 lo7 W7 K7 q7
  obtain rfl := q7.2.2
  show Gl _ _ _ _ _ _ _ _ [(.int (own_lo x2))]
  refine o_istore W7 (L' := #[vr a1, vi 2, vi 3, vi 0, vi (own_hi x2), vi (own_lo x2)]) 67 (hb hy d28_65) rfl rfl <| o_iload W7 69 (hb hy d28_67) rfl rfl ?_
  refine o_staticC W7 (w129 hw) (w130 hw) (w115 hw) (w131 hw) (by decide) (rm5 l hw (own_lo x2) h7 W7.old ) 0 0 0 (by decide) (by rw [hml]; rfl) (lenOf pd18 rfl) [] rfl rfl 72 (hb hy d28_69) rfl rfl rfl all0 tri ?_
  intro v8 T8 h8 lo8 W8 K8 q8
  obtain rfl := q8.2.2
  show Gl _ _ _ _ _ _ _ _ [(.int (own_ls (own_lo x2)))]
  refine o_ifN W8 75 (hb hy d28_72) (XT.i0_eq_f (own_lsY (own_spI hu4 hc5))) rfl <| o_iload W8 77 (hb hy d28_75) rfl rfl <| o_iload W8 79 (hb hy d28_77) rfl rfl ?_
  refine o_staticC W8 (w133 hw) (w134 hw) (w115 hw) (w135 hw) (by decide) (rm61 l hw x2 h8 W8.old hu4 hc5) 0 0 0 (by decide) (by rw [hml]; rfl) (lenOf pd22 rfl) [] rfl rfl 82 (hb hy d28_79) rfl rfl rfl all0 tri ?_
  intro v9 T9 h9 lo9 W9 K9 q9
  obtain rfl := q9.2.2
  show Gl _ _ _ _ _ _ _ _ [(.int x2)]
  exact o_retI W9 hlk hret (hb hy d28_82) (by decide) (by decide) rfl
theorem rm129 (l : Launch) {Z a0} (hw : HW Z a0) (a1 : Addr) (z0 : ClassId) (x1 x2 : Int32) (h0 : Heap) (O0 : Old Z Z.heap.size h0) (z1 : Sta Z Z.heap s0 s2 "Z" (.int 1)) (z2 : Arv Z h0 a1 z0 .byte 6 [(.int (bH x1)), (.int (bL x1)), (.int (((own_hi x2) >>> ((0 : Int32) &&& 31)).toInt8.toInt32)), (.int (((own_hi x2) >>> ((8 : Int32) &&& 31)).toInt8.toInt32)), (.int (((own_lo x2) >>> ((0 : Int32) &&& 31)).toInt8.toInt32)), (.int (((own_lo x2) >>> ((8 : Int32) &&& 31)).toInt8.toInt32))] iZ) (z3 : Sta Z Z.heap s0 s3 "I" iZ) (z4 : Sta Z Z.heap s0 s4 "I" (.int 8)) (hu1 : own_cp x2) (hc2 : ¬ (x2 < (65536 : Int32))) :
    CtrN l Z mn28 jdk_52_method_8_code 3 (some .int) [] (⟨2, 0, 0, 30⟩ : Room) #[(.ref a1), (.int 1), (.int 3)] h0 [] (fun v h => v = some (.int x2)) := by
  refine CtrN.intro (L0 := #[vr a1, vi 1, vi 3]) (plainFor_of_name pn5) O0 (own_entry rfl) ?_
  intro p e s m below meth c T0 hy hml hret hlk hnm W0
  refine o_aloadN W0 1 (hb hy d27_0) rfl rfl rfl <| o_iloadN W0 2 (hb hy d27_1) rfl rfl <| o_iloadN W0 3 (hb hy d27_2) rfl rfl <| o_iconst W0 (v := 0) 4 (hb hy d27_3) rfl rfl ?_
  refine o_staticC W0 (w121 hw) (w122 hw) (w60 hw) (w123 hw) (by decide) (rm128 l hw a1 z0 x1 x2 h0 W0.old z1 z2 z3 z4 hu1 hc2) 0 0 0 (by decide) (by rw [hml]; rfl) (lenOf pd19 rfl) [] rfl rfl 7 (hb hy d27_4) rfl rfl rfl all0 tri ?_
  intro v3 T3 h3 lo3 W3 K3 q3
  obtain rfl := q3.2.2
  show Gl _ _ _ _ _ _ _ _ [(.int x2)]
  exact o_retI W3 hlk hret (hb hy d27_7) (by decide) (by decide) rfl
theorem rm130 (l : Launch) {Z a0} (hw : HW Z a0) (gCS : Int32) (gF : Value) (a1 a2 : Addr) (z0 : ClassId) (x1 x2 : Int32) (h0 : Heap) (O0 : Old Z Z.heap.size h0) (z1 : Exa Z h0 a1 s1) (SgCS : Sta Z Z.heap s1 s5 "Z" (.int gCS)) (NgCS : ¬ (gCS = (0 : Int32))) (z2 : Fld Z h0 a1 s1 "coder" "B" (.int 1)) (z3 : Fld Z h0 a1 s1 "value" "[B" (.ref a2)) (z4 : Arv Z h0 a2 z0 .byte 6 [(.int (bH x1)), (.int (bL x1)), (.int (((own_hi x2) >>> ((0 : Int32) &&& 31)).toInt8.toInt32)), (.int (((own_hi x2) >>> ((8 : Int32) &&& 31)).toInt8.toInt32)), (.int (((own_lo x2) >>> ((0 : Int32) &&& 31)).toInt8.toInt32)), (.int (((own_lo x2) >>> ((8 : Int32) &&& 31)).toInt8.toInt32))] iZ) (SgF : Sta Z Z.heap s6 s7 s8 gF) (NgF : gF.isRef = true) (z5 : Sta Z Z.heap s0 s2 "Z" (.int 1)) (z6 : Sta Z Z.heap s0 s3 "I" iZ) (z7 : Sta Z Z.heap s0 s4 "I" (.int 8)) (hu9 : own_cp x2) (hc10 : ¬ (x2 < (65536 : Int32))) :
    CtrN l Z mn1 jdk_42_method_57_code 3 (some .int) [] (⟨6, 0, 0, 90⟩ : Room) #[(.ref a1), (.int 1)] h0 [] (fun v h => v = some (.int x2)) := by
  refine CtrN.intro (L0 := #[vr a1, vi 1, un]) (plainFor_of_name pn2) O0 (own_entry rfl) ?_
  intro p e s m below meth c T0 hy hml hret hlk hnm W0
  refine o_aloadN W0 1 (hb hy d15_0) rfl rfl rfl ?_
  refine o_virtualC W0 (w73 hw) (w74 hw) (o_nf W0 rfl (w76 hw)) (w76 hw) (w75 hw) (by decide) z1 (w77 hw) (w12 hw) (rm39 l hw gCS a1 h0 W0.old SgCS NgCS z2) 0 0 0 (by decide) (by rw [hml]; rfl) (lenOf pd12 rfl) [] rfl rfl 4 (hb hy d15_1) rfl rfl rfl all0 tri ?_
  intro v1 T1 h1 lo1 W1 K1 q1
  obtain rfl := q1.2.2
  show Gl _ _ _ _ _ _ _ _ [iZ]
  refine o_ifY W1 27 (hb hy d15_4) (XT.i0_eq_t (by decide)) (by decide) rfl <| o_aloadN W1 28 (hb hy d15_27) rfl rfl rfl ?_
  have c2 := (z3.keep K1 nin0)
  refine o_getF W1 (w30 hw) Via.refl c2 31 (hb hy d15_28) rfl ?_
  intro T3 W3
  have c4 := (z4.keep K1 nin0)
  refine o_len W3 c4 32 (hb hy d15_31) rfl <| o_iconst W3 (v := 1) 33 (hb hy d15_32) rfl rfl <| o_ishr W3 (v := 3) 34 (hb hy d15_33) (by decide) rfl <| o_istoreN W3 (L' := #[vr a1, vi 1, vi 3]) 35 (hb hy d15_34) rfl rfl <| o_iloadN W3 36 (hb hy d15_35) rfl rfl <| o_iloadN W3 37 (hb hy d15_36) rfl rfl ?_
  refine o_staticC W3 (w78 hw) (w79 hw) (w12 hw) (w80 hw) (by decide) (rm126 l hw gF h1 W3.old SgF NgF) 0 0 0 (by decide) (by rw [hml]; rfl) (lenOf pd14 rfl) [] rfl rfl 40 (hb hy d15_37) rfl rfl rfl all0 tri ?_
  intro v5 T5 h5 lo5 W5 K5 q5
  obtain rfl := q5.2.2
  show Gl _ _ _ _ _ _ _ _ []
  refine o_aloadN W5 41 (hb hy d15_40) rfl rfl rfl ?_
  have c6 := (c2.keep K5 nin0)
  refine o_getF W5 (w30 hw) Via.refl c6 44 (hb hy d15_41) rfl ?_
  intro T7 W7
  refine o_iloadN W7 45 (hb hy d15_44) rfl rfl <| o_iloadN W7 46 (hb hy d15_45) rfl rfl ?_
  have c8 := (c4.keep K5 nin0)
  refine o_staticC W7 (w118 hw) (w119 hw) (w60 hw) (w120 hw) (by decide) (rm129 l hw a2 z0 x1 x2 h5 W7.old z5 c8 z6 z7 hu9 hc10) 0 0 0 (by decide) (by rw [hml]; rfl) (lenOf pd20 rfl) [] rfl rfl 49 (hb hy d15_46) rfl rfl rfl all0 tri ?_
  intro v11 T11 h11 lo11 W11 K11 q11
  obtain rfl := q11.2.2
  show Gl _ _ _ _ _ _ _ _ [(.int x2)]
  exact o_retI W11 hlk hret (hb hy d15_49) (by decide) (by decide) rfl
theorem rm131 (l : Launch) {Z a0} (hw : HW Z a0) (a1 a2 : Addr) (z0 : ClassId) (x1 x2 : Int32) (h0 : Heap) (O0 : Old Z Z.heap.size h0) (z1 : Arv Z h0 a1 z0 .char 3 [(.int x1), (.int (own_hi x2)), (.int (own_lo x2))] iZ) (hu1 : own_cp x1) (hc2 : x1 < (65536 : Int32)) (hc3 : (255 : Int32) < x1) :
    CtrN l Z mn16 jdk_52_method_21_code 7 (some .int) [] (⟨0, 0, 0, 0⟩ : Room) #[(.ref a1), iZ, (.ref a2), iZ, (.int 3)] h0 [] (fun v h => v = some iZ) := by
  refine CtrN.intro (L0 := #[vr a1, vi 0, vr a2, vi 0, vi 3, un, un]) (plainFor_of_name pn5) O0 (own_entry rfl) ?_
  intro p e s m below meth c T0 hy hml hret hlk hnm W0
  refine o_iconst W0 (v := 0) 1 (hb hy d13_0) rfl rfl <| o_istore W0 (L' := #[vr a1, vi 0, vr a2, vi 0, vi 3, vi 0, un]) 3 (hb hy d13_1) rfl rfl <| o_iload W0 5 (hb hy d13_3) rfl rfl <| o_iload W0 7 (hb hy d13_5) rfl rfl <| o_icmpN W0 10 (hb hy d13_7) (XT.ii_ge_f (by decide)) rfl <| o_aloadN W0 11 (hb hy d13_10) rfl rfl rfl ?_
  refine o_iloadN W0 12 (hb hy d13_11) rfl rfl <| o_caload W0 z1 (x := x1) (i := 0) (by decide) (by decide) (by decide) rfl 13 (hb hy d13_12) rfl <| o_istore W0 (L' := #[vr a1, vi 0, vr a2, vi 0, vi 3, vi 0, vi x1]) 15 (hb hy d13_13) rfl rfl <| o_iload W0 17 (hb hy d13_15) rfl rfl <| o_sipush W0 (v := 255) 20 (hb hy d13_17) (by decide) rfl <| o_icmpN W0 23 (hb hy d13_20) (XT.ii_le_f hc3) rfl ?_
  refine o_iload W0 25 (hb hy d13_23) rfl rfl ?_
  exact o_retI W0 hlk hret (hb hy d13_25) (by decide) (by decide) rfl
theorem rm132 (l : Launch) {Z a0} (hw : HW Z a0) (a1 : Addr) (z0 : ClassId) (x1 x2 : Int32) (h0 : Heap) (O0 : Old Z Z.heap.size h0) (z1 : Arv Z h0 a1 z0 .char 3 [(.int x1), (.int (own_hi x2)), (.int (own_lo x2))] iZ) (hu3 : own_cp x1) (hc4 : x1 < (65536 : Int32)) (hc5 : (255 : Int32) < x1) (z2 : Sta Z Z.heap s0 s2 "Z" (.int 1)) (z3 : Sta Z Z.heap s0 s3 "I" iZ) (z4 : Sta Z Z.heap s0 s4 "I" (.int 8)) :
    CtrN l Z mn17 jdk_52_method_16_code 6 (some (.array .byte)) [] (⟨3, 2, 9, 40⟩ : Room) #[(.ref a1), iZ, (.int 3)] h0 [] (fun v h => ∃ r1 : Addr, ∃ r2 : ClassId, h0.size ≤ r1 ∧ Arv Z h r1 r2 .byte 6 [(.int (bH x1)), (.int (bL x1)), (.int (((own_hi x2) >>> ((0 : Int32) &&& 31)).toInt8.toInt32)), (.int (((own_hi x2) >>> ((8 : Int32) &&& 31)).toInt8.toInt32)), (.int (((own_lo x2) >>> ((0 : Int32) &&& 31)).toInt8.toInt32)), (.int (((own_lo x2) >>> ((8 : Int32) &&& 31)).toInt8.toInt32))] iZ ∧ v = some (.ref r1)) := by
  refine CtrN.intro (L0 := #[vr a1, vi 0, vi 3, un, un, un]) (plainFor_of_name pn5) O0 (own_entry rfl) ?_
  intro p e s m below meth c T0 hy hml hret hlk hnm W0
  refine o_iloadN W0 1 (hb hy d12_0) rfl rfl ?_
  refine o_newP W0 (aty := .byte) (w25 hw) tri (by decide) (cap := 3) (by decide) (by decide) 3 (hb hy d12_1) rfl (cells' := 1) (slots' := 3) rfl rfl (by decide) (by decide) (vs := [iZ, iZ, iZ]) (dv := iZ) rfl rfl ?_
  intro b1 T1 h1 k1 W1 E1 ge1 gz1 gb1 V1
  refine o_astoreN W1 (L' := #[vr a1, vi 0, vi 3, vr b1, un, un]) 4 (hb hy d12_3) rfl rfl rfl <| o_aloadN W1 5 (hb hy d12_4) rfl rfl rfl <| o_iloadN W1 6 (hb hy d12_5) rfl rfl <| o_aloadN W1 7 (hb hy d12_6) rfl rfl rfl <| o_iconst W1 (v := 0) 8 (hb hy d12_7) rfl rfl <| o_iloadN W1 9 (hb hy d12_8) rfl rfl ?_
  have c2 := (z1.ext E1)
  refine o_staticC W1 (w62 hw) (w63 hw) (w60 hw) (w64 hw) (by decide) (rm131 l hw a1 b1 z0 x1 x2 h1 W1.old c2 hu3 hc4 hc5) 0 1 3 (by decide) (by rw [hml]; rfl) (lenOf pd9 rfl) [] rfl rfl 12 (hb hy d12_9) rfl rfl rfl all0 tri ?_
  intro v6 T6 h6 lo6 W6 K6 q6
  obtain rfl := q6.2.2
  show Gl _ _ _ _ _ _ _ _ [iZ]
  refine o_istore W6 (L' := #[vr a1, vi 0, vi 3, vr b1, vi 0, un]) 14 (hb hy d12_12) rfl rfl <| o_iload W6 16 (hb hy d12_14) rfl rfl <| o_iloadN W6 17 (hb hy d12_16) rfl rfl <| o_icmpN W6 20 (hb hy d12_17) (XT.ii_eq_f (by decide)) rfl <| o_aloadN W6 21 (hb hy d12_20) rfl rfl rfl <| o_iloadN W6 22 (hb hy d12_21) rfl rfl ?_
  refine o_iloadN W6 23 (hb hy d12_22) rfl rfl ?_
  have c7 := (c2.keep K6 nin0)
  refine o_staticC W6 (w94 hw) (w95 hw) (w60 hw) (w96 hw) (by decide) (rm110 l hw a1 z0 x1 x2 h6 W6.old c7 z2 z3 z4) 0 2 9 (by decide) (by rw [hml]; rfl) (lenOf pd10 rfl) [] rfl rfl 26 (hb hy d12_23) rfl rfl rfl all0 tri ?_
  intro v8 T8 h8 lo8 W8 K8 q8
  obtain ⟨r1_8, r2_8, P8_0, P8_1, rfl⟩ := q8.2.2
  show Gl _ _ _ _ _ _ _ _ [(.ref r1_8)]
  refine o_astore W8 (L' := #[vr a1, vi 0, vi 3, vr b1, vi 0, vr r1_8]) 28 (hb hy d12_26) rfl rfl rfl <| o_aload W8 30 (hb hy d12_28) rfl rfl rfl <| o_iload W8 32 (hb hy d12_30) rfl rfl ?_
  refine o_staticC W8 (w110 hw) (w111 hw) (w60 hw) (w112 hw) (by decide) (rm120 l hw r1_8 r2_8 x1 x2 h8 W8.old z2 P8_1 z3 z4 hu3 hc4) 0 2 9 (by decide) (by rw [hml]; rfl) (lenOf pd17 rfl) [] rfl rfl 35 (hb hy d12_32) rfl rfl rfl all0 tri ?_
  intro v9 T9 h9 lo9 W9 K9 q9
  obtain rfl := q9.2.2
  show Gl _ _ _ _ _ _ _ _ [(.int x1)]
  refine o_sipush W9 (v := 255) 38 (hb hy d12_35) (by decide) rfl <| o_icmpY W9 54 (hb hy d12_38) (XT.ii_gt_t hc5) (by decide) rfl <| o_aload W9 56 (hb hy d12_54) rfl rfl rfl ?_
  have c10 := (P8_1.keep K9 nin0)
  exact o_retA W9 hlk (v := (.ref r1_8)) hret rfl rfl (hb hy d12_56) (by decide) (by decide) ⟨r1_8, r2_8, (Nat.le_trans W6.keep.1 P8_0), c10, rfl⟩
theorem rm133 (l : Launch) {Z a0} (hw : HW Z a0) (gCS : Int32) (a1 a2 : Addr) (z0 : ClassId) (x1 x2 : Int32) (h0 : Heap) (O0 : Old Z Z.heap.size h0) (SgCS : Sta Z Z.heap s1 s5 "Z" (.int gCS)) (NgCS : ¬ (gCS = (0 : Int32))) (z1 : Arv Z h0 a2 z0 .char 3 [(.int x1), (.int (own_hi x2)), (.int (own_lo x2))] iZ) (hu3 : own_cp x1) (hc4 : x1 < (65536 : Int32)) (hc5 : (255 : Int32) < x1) (z2 : Sta Z Z.heap s0 s2 "Z" (.int 1)) (z3 : Sta Z Z.heap s0 s3 "I" iZ) (z4 : Sta Z Z.heap s0 s4 "I" (.int 8)) (z5 : Exa Z h0 a1 s1) (z6 : Fld Z h0 a1 s1 "coder" "B" iZ) (z7 : Z.heap.size ≤ a1) (z8 : Fld Z h0 a1 s1 "value" "[B" .null) :
    CtrN l Z mn8 jdk_42_method_149_code 6 none [] (⟨4, 2, 9, 57⟩ : Room) #[(.ref a1), (.ref a2), iZ, (.int 3), .null] h0 [a1] (fun v h => ∃ r1 : Addr, ∃ r2 : ClassId, h0.size ≤ r1 ∧ Fld Z h a1 s1 "coder" "B" (.int 1) ∧ Fld Z h a1 s1 "value" "[B" (.ref r1) ∧ Arv Z h r1 r2 .byte 6 [(.int (bH x1)), (.int (bL x1)), (.int (((own_hi x2) >>> ((0 : Int32) &&& 31)).toInt8.toInt32)), (.int (((own_hi x2) >>> ((8 : Int32) &&& 31)).toInt8.toInt32)), (.int (((own_lo x2) >>> ((0 : Int32) &&& 31)).toInt8.toInt32)), (.int (((own_lo x2) >>> ((8 : Int32) &&& 31)).toInt8.toInt32))] iZ ∧ v = none) := by
  refine CtrN.intro (L0 := #[vr a1, vr a2, vi 0, vi 3, .val .null, un]) (plainFor_of_name pn2) O0 (own_entry rfl) ?_
  intro p e s m below meth c T0 hy hml hret hlk hnm W0
  refine o_aloadN W0 1 (hb hy d4_0) rfl rfl rfl ?_
  refine o_initO W0 (w21 hw) (w22 hw) (w23 hw) (by rw [hml]; rfl) 4 (hb hy d4_1) rfl (by decide) 0 (by exact Nat.le_of_eq rfl) (by decide) ?_
  intro T1 W1
  refine o_iloadN W1 5 (hb hy d4_4) rfl rfl <| o_ifY W1 27 (hb hy d4_5) (XT.i0_ne_t (by decide)) (by decide) rfl ?_
  refine o_getS W1 (w49 hw) Via.refl (SgCS.ext W1.ox) 30 (hb hy d4_27) rfl ?_
  intro T2 W2
  refine o_ifN W2 33 (hb hy d4_30) (XT.i0_eq_f NgCS) rfl <| o_aloadN W2 34 (hb hy d4_33) rfl rfl rfl <| o_iloadN W2 35 (hb hy d4_34) rfl rfl <| o_iloadN W2 36 (hb hy d4_35) rfl rfl ?_
  refine o_staticC W2 (w58 hw) (w59 hw) (w60 hw) (w61 hw) (by decide) (rm132 l hw a2 z0 x1 x2 h0 W2.old z1 hu3 hc4 hc5 z2 z3 z4) 0 2 9 (by decide) (by rw [hml]; rfl) (lenOf pd10 rfl) [] rfl rfl 39 (hb hy d4_36) rfl rfl rfl all0 tri ?_
  intro v6 T6 h6 lo6 W6 K6 q6
  obtain ⟨r1_6, r2_6, P6_0, P6_1, rfl⟩ := q6.2.2
  show Gl _ _ _ _ _ _ _ _ [(.ref r1_6)]
  refine o_astore W6 (L' := #[vr a1, vr a2, vi 0, vi 3, .val .null, vr r1_6]) 41 (hb hy d4_39) rfl rfl rfl <| o_aloadN W6 42 (hb hy d4_41) rfl rfl rfl <| o_aload W6 44 (hb hy d4_42) rfl rfl rfl <| o_iloadN W6 45 (hb hy d4_44) rfl rfl ?_
  refine o_staticC W6 (w65 hw) (w66 hw) (w60 hw) (w67 hw) (by decide) (rm113 l hw r1_6 r2_6 x1 x2 h6 W6.old P6_1) 1 2 9 (by decide) (by rw [hml]; rfl) (lenOf pd11 rfl) [(.ref a1)] rfl rfl 48 (hb hy d4_45) rfl rfl rfl all0 tri ?_
  intro v7 T7 h7 lo7 W7 K7 q7
  obtain rfl := q7.2.2
  show Gl _ _ _ _ _ _ _ _ [(.int 1), (.ref a1)]
  have c8 := ((z5.keep K6).keep K7)
  have c9 := ((z6.keep K6 nin0).keep K7 nin0)
  refine o_putF W7 (w31 hw) Via.refl c9 c8 (Or.inr ⟨(w27 hw), rfl, hnm⟩) (w11 hw) (ty := .byte) (v' := (.int 1)) (by decide) rfl (by decide) z7 m0 tri 51 (hb hy d4_48) rfl ?_
  intro T10 h10 lo10 W10 R10
  have F10 := c9.same R10
  refine o_aloadN W10 52 (hb hy d4_51) rfl rfl rfl <| o_aload W10 54 (hb hy d4_52) rfl rfl rfl ?_
  have c11 := (c8.wr R10)
  have c12 := (((z8.keep K6 nin0).keep K7 nin0).other R10 (Or.inr (slot_ne (Or.inr (w26 hw)) (Or.inr (w27 hw)) (by decide) (t := (.array .byte)) (t' := .byte) (by decide) (by decide))))
  refine o_putF W10 (w30 hw) Via.refl c12 c11 (Or.inr ⟨(w26 hw), rfl, hnm⟩) (w11 hw) (ty := (.array .byte)) (v' := (.ref r1_6)) (by decide) rfl rfl z7 m0 tri 57 (hb hy d4_54) rfl ?_
  intro T13 h13 lo13 W13 R13
  have F13 := c12.same R13
  have c14 := (F10.other R13 (Or.inr (slot_ne (Or.inr (w27 hw)) (Or.inr (w26 hw)) (by decide) (t := .byte) (t' := (.array .byte)) (by decide) (by decide))))
  have c15 := (c11.wr R13)
  have c16 := (((P6_1.keep K7 nin0).other R10 (own_ne' z5.lt P6_0)).other R13 (own_ne' z5.lt P6_0))
  exact o_ret0 W13 hlk hret (hb hy d4_57) (by decide) (by decide) ⟨r1_6, r2_6, (Nat.le_trans W2.keep.1 P6_0), c14, F13, c16, rfl⟩
theorem rm134 (l : Launch) {Z a0} (hw : HW Z a0) (gCS : Int32) (a1 a2 : Addr) (z0 : ClassId) (x1 x2 : Int32) (h0 : Heap) (O0 : Old Z Z.heap.size h0) (z1 : Arv Z h0 a2 z0 .char 3 [(.int x1), (.int (own_hi x2)), (.int (own_lo x2))] iZ) (SgCS : Sta Z Z.heap s1 s5 "Z" (.int gCS)) (NgCS : ¬ (gCS = (0 : Int32))) (hu1 : own_cp x1) (hc2 : x1 < (65536 : Int32)) (hc3 : (255 : Int32) < x1) (z2 : Sta Z Z.heap s0 s2 "Z" (.int 1)) (z3 : Sta Z Z.heap s0 s3 "I" iZ) (z4 : Sta Z Z.heap s0 s4 "I" (.int 8)) (z5 : Exa Z h0 a1 s1) (z6 : Fld Z h0 a1 s1 "coder" "B" iZ) (z7 : Fld Z h0 a1 s1 "value" "[B" .null) (z8 : Z.heap.size ≤ a1) :
    CtrN l Z mn9 jdk_42_method_3_code 2 none [] (⟨5, 2, 9, 74⟩ : Room) #[(.ref a1), (.ref a2)] h0 [a1] (fun v h => ∃ r1 : Addr, ∃ r2 : ClassId, h0.size ≤ r1 ∧ Fld Z h a1 s1 "coder" "B" (.int 1) ∧ Fld Z h a1 s1 "value" "[B" (.ref r1) ∧ Arv Z h r1 r2 .byte 6 [(.int (bH x1)), (.int (bL x1)), (.int (((own_hi x2) >>> ((0 : Int32) &&& 31)).toInt8.toInt32)), (.int (((own_hi x2) >>> ((8 : Int32) &&& 31)).toInt8.toInt32)), (.int (((own_lo x2) >>> ((0 : Int32) &&& 31)).toInt8.toInt32)), (.int (((own_lo x2) >>> ((8 : Int32) &&& 31)).toInt8.toInt32))] iZ ∧ v = none) := by
  refine CtrN.intro (L0 := #[vr a1, vr a2]) (plainFor_of_name pn2) O0 (own_entry rfl) ?_
  intro p e s m below meth c T0 hy hml hret hlk hnm W0
  refine o_aloadN W0 1 (hb hy d3_0) rfl rfl rfl <| o_aloadN W0 2 (hb hy d3_1) rfl rfl rfl <| o_iconst W0 (v := 0) 3 (hb hy d3_2) rfl rfl <| o_aloadN W0 4 (hb hy d3_3) rfl rfl rfl <| o_len W0 z1 5 (hb hy d3_4) rfl ?_
  refine o_aconstNull W0 6 (hb hy d3_5) rfl ?_
  refine o_specialC W0 rfl (w17 hw) (w18 hw) (w20 hw) (by decide) (w12 hw) (rm133 l hw gCS a1 a2 z0 x1 x2 h0 W0.old SgCS NgCS z1 hu1 hc2 hc3 z2 z3 z4 z5 z6 z8 z7) 0 2 9 (by decide) (by rw [hml]; rfl) (lenOf pd1 rfl) [] rfl rfl 9 (hb hy d3_6) rfl rfl rfl (allS ⟨z8, m0⟩ all0) tri ?_
  intro v4 T4 h4 lo4 W4 K4 q4
  obtain ⟨r1_4, r2_4, P4_0, P4_1, P4_2, P4_3, rfl⟩ := q4.2.2
  show Gl _ _ _ _ _ _ _ _ []
  have c5 := (z5.keep K4)
  exact o_ret0 W4 hlk hret (hb hy d3_9) (by decide) (by decide) ⟨r1_4, r2_4, (Nat.le_trans W0.keep.1 P4_0), P4_1, P4_2, P4_3, rfl⟩
theorem rm135 (l : Launch) {Z a0} (hw : HW Z a0) (a1 a2 : Addr) (z0 : ClassId) (x1 x2 : Int32) (h0 : Heap) (O0 : Old Z Z.heap.size h0) (z1 : Arv Z h0 a1 z0 .char 3 [(.int (own_hi x1)), (.int (own_lo x1)), (.int x2)] iZ) (hu1 : own_cp x1) (hc2 : ¬ (x1 < (65536 : Int32))) :
    CtrN l Z mn16 jdk_52_method_21_code 7 (some .int) [] (⟨0, 0, 0, 0⟩ : Room) #[(.ref a1), iZ, (.ref a2), iZ, (.int 3)] h0 [] (fun v h => v = some iZ) := by
  refine CtrN.intro (L0 := #[vr a1, vi 0, vr a2, vi 0, vi 3, un, un]) (plainFor_of_name pn5) O0 (own_entry rfl) ?_
  intro p e s m below meth c T0 hy hml hret hlk hnm W0
  refine o_iconst W0 (v := 0) 1 (hb hy d13_0) rfl rfl <| o_istore W0 (L' := #[vr a1, vi 0, vr a2, vi 0, vi 3, vi 0, un]) 3 (hb hy d13_1) rfl rfl <| o_iload W0 5 (hb hy d13_3) rfl rfl <| o_iload W0 7 (hb hy d13_5) rfl rfl <| o_icmpN W0 10 (hb hy d13_7) (XT.ii_ge_f (by decide)) rfl <| o_aloadN W0 11 (hb hy d13_10) rfl rfl rfl ?_
  refine o_iloadN W0 12 (hb hy d13_11) rfl rfl <| o_caload W0 z1 (x := (own_hi x1)) (i := 0) (by decide) (by decide) (by decide) rfl 13 (hb hy d13_12) rfl <| o_istore W0 (L' := #[vr a1, vi 0, vr a2, vi 0, vi 3, vi 0, vi (own_hi x1)]) 15 (hb hy d13_13) rfl rfl <| o_iload W0 17 (hb hy d13_15) rfl rfl <| o_sipush W0 (v := 255) 20 (hb hy d13_17) (by decide) rfl <| o_icmpN W0 23 (hb hy d13_20) (XT.ii_le_f (own_hiI (own_spI hu1 hc2)).2.2) rfl ?_
  refine o_iload W0 25 (hb hy d13_23) rfl rfl ?_
  exact o_retI W0 hlk hret (hb hy d13_25) (by decide) (by decide) rfl
theorem rm136 (l : Launch) {Z a0} (hw : HW Z a0) (a1 : Addr) (x1 : Int32) (z0 : ClassId) (h0 : Heap) (O0 : Old Z Z.heap.size h0) (z1 : Sta Z Z.heap s0 s2 "Z" (.int 1)) (z2 : Sta Z Z.heap s0 s3 "I" iZ) (z3 : Arv Z h0 a1 z0 .byte 6 [iZ, iZ, iZ, iZ, iZ, iZ] iZ) (z4 : Z.heap.size ≤ a1) (z5 : Sta Z Z.heap s0 s4 "I" (.int 8)) :
    CtrN l Z mn24 jdk_52_method_4_code 3 none [] (⟨0, 0, 0, 0⟩ : Room) #[(.ref a1), iZ, (.int (own_hi x1))] h0 [a1] (fun v h => Arv Z h a1 z0 .byte 6 [(.int (((own_hi x1) >>> ((0 : Int32) &&& 31)).toInt8.toInt32)), (.int (((own_hi x1) >>> ((8 : Int32) &&& 31)).toInt8.toInt32)), iZ, iZ, iZ, iZ] iZ ∧ v = none) := by
  refine CtrN.intro (L0 := #[vr a1, vi 0, vi (own_hi x1)]) (plainFor_of_name pn5) O0 (own_entry rfl) ?_
  intro p e s m below meth c T0 hy hml hret hlk hnm W0
  refine o_getS W0 (w107 hw) Via.refl (z1.ext W0.ox) 3 (hb hy d24_0) rfl ?_
  intro T1 W1
  refine o_ifY W1 28 (hb hy d24_3) (XT.i0_ne_t (by decide)) (by decide) rfl <| o_iloadN W1 29 (hb hy d24_28) rfl rfl <| o_iconst W1 (v := 1) 30 (hb hy d24_29) rfl rfl <| o_ishl W1 (v := 0) 31 (hb hy d24_30) (by decide) rfl <| o_istoreN W1 (L' := #[vr a1, vi 0, vi (own_hi x1)]) 32 (hb hy d24_31) rfl rfl <| o_aloadN W1 33 (hb hy d24_32) rfl rfl rfl ?_
  refine o_iloadN W1 34 (hb hy d24_33) rfl rfl <| o_iinc W1 (v := 1) (L' := #[vr a1, vi 1, vi (own_hi x1)]) 37 (hb hy d24_34) rfl (by decide) rfl rfl <| o_iloadN W1 38 (hb hy d24_37) rfl rfl ?_
  refine o_getS W1 (w108 hw) Via.refl (z2.ext W1.ox) 41 (hb hy d24_38) rfl ?_
  intro T2 W2
  refine o_ishr W2 (v := ((own_hi x1) >>> ((0 : Int32) &&& 31))) 42 (hb hy d24_41) rfl rfl <| o_i2b W2 (v := (((own_hi x1) >>> ((0 : Int32) &&& 31)).toInt8.toInt32)) 43 (hb hy d24_42) rfl rfl ?_
  refine o_stB W2 z3 (i := 0) (x' := (((own_hi x1) >>> ((0 : Int32) &&& 31)).toInt8.toInt32)) (by decide) (by decide) (by decide) (Nat.lt_of_sub_eq_succ rfl) (own_b8 _) (vs' := [(.int (((own_hi x1) >>> ((0 : Int32) &&& 31)).toInt8.toInt32)), iZ, iZ, iZ, iZ, iZ]) rfl z4 m0 tri 44 (hb hy d24_43) rfl ?_
  intro T3 h3 lo3 W3 R3 V3
  refine o_aloadN W3 45 (hb hy d24_44) rfl rfl rfl <| o_iloadN W3 46 (hb hy d24_45) rfl rfl <| o_iloadN W3 47 (hb hy d24_46) rfl rfl ?_
  refine o_getS W3 (w109 hw) Via.refl (z5.ext W3.ox) 50 (hb hy d24_47) rfl ?_
  intro T4 W4
  refine o_ishr W4 (v := ((own_hi x1) >>> ((8 : Int32) &&& 31))) 51 (hb hy d24_50) rfl rfl <| o_i2b W4 (v := (((own_hi x1) >>> ((8 : Int32) &&& 31)).toInt8.toInt32)) 52 (hb hy d24_51) rfl rfl ?_
  refine o_stB W4 V3 (i := 1) (x' := (((own_hi x1) >>> ((8 : Int32) &&& 31)).toInt8.toInt32)) (by decide) (by decide) (by decide) (Nat.lt_of_sub_eq_succ rfl) (own_b8 _) (vs' := [(.int (((own_hi x1) >>> ((0 : Int32) &&& 31)).toInt8.toInt32)), (.int (((own_hi x1) >>> ((8 : Int32) &&& 31)).toInt8.toInt32)), iZ, iZ, iZ, iZ]) rfl z4 m0 tri 53 (hb hy d24_52) rfl ?_
  intro T5 h5 lo5 W5 R5 V5
  exact o_ret0 W5 hlk hret (hb hy d24_53) (by decide) (by decide) ⟨V5, rfl⟩
theorem rm137 (l : Launch) {Z a0} (hw : HW Z a0) (a1 : Addr) (x1 : Int32) (z0 : ClassId) (h0 : Heap) (O0 : Old Z Z.heap.size h0) (z1 : Sta Z Z.heap s0 s2 "Z" (.int 1)) (z2 : Sta Z Z.heap s0 s3 "I" iZ) (z3 : Arv Z h0 a1 z0 .byte 6 [(.int (((own_hi x1) >>> ((0 : Int32) &&& 31)).toInt8.toInt32)), (.int (((own_hi x1) >>> ((8 : Int32) &&& 31)).toInt8.toInt32)), iZ, iZ, iZ, iZ] iZ) (z4 : Z.heap.size ≤ a1) (z5 : Sta Z Z.heap s0 s4 "I" (.int 8)) :
    CtrN l Z mn24 jdk_52_method_4_code 3 none [] (⟨0, 0, 0, 0⟩ : Room) #[(.ref a1), (.int 1), (.int (own_lo x1))] h0 [a1] (fun v h => Arv Z h a1 z0 .byte 6 [(.int (((own_hi x1) >>> ((0 : Int32) &&& 31)).toInt8.toInt32)), (.int (((own_hi x1) >>> ((8 : Int32) &&& 31)).toInt8.toInt32)), (.int (((own_lo x1) >>> ((0 : Int32) &&& 31)).toInt8.toInt32)), (.int (((own_lo x1) >>> ((8 : Int32) &&& 31)).toInt8.toInt32)), iZ, iZ] iZ ∧ v = none) := by
  refine CtrN.intro (L0 := #[vr a1, vi 1, vi (own_lo x1)]) (plainFor_of_name pn5) O0 (own_entry rfl) ?_
  intro p e s m below meth c T0 hy hml hret hlk hnm W0
  refine o_getS W0 (w107 hw) Via.refl (z1.ext W0.ox) 3 (hb hy d24_0) rfl ?_
  intro T1 W1
  refine o_ifY W1 28 (hb hy d24_3) (XT.i0_ne_t (by decide)) (by decide) rfl <| o_iloadN W1 29 (hb hy d24_28) rfl rfl <| o_iconst W1 (v := 1) 30 (hb hy d24_29) rfl rfl <| o_ishl W1 (v := 2) 31 (hb hy d24_30) (by decide) rfl <| o_istoreN W1 (L' := #[vr a1, vi 2, vi (own_lo x1)]) 32 (hb hy d24_31) rfl rfl <| o_aloadN W1 33 (hb hy d24_32) rfl rfl rfl ?_
  refine o_iloadN W1 34 (hb hy d24_33) rfl rfl <| o_iinc W1 (v := 3) (L' := #[vr a1, vi 3, vi (own_lo x1)]) 37 (hb hy d24_34) rfl (by decide) rfl rfl <| o_iloadN W1 38 (hb hy d24_37) rfl rfl ?_
  refine o_getS W1 (w108 hw) Via.refl (z2.ext W1.ox) 41 (hb hy d24_38) rfl ?_
  intro T2 W2
  refine o_ishr W2 (v := ((own_lo x1) >>> ((0 : Int32) &&& 31))) 42 (hb hy d24_41) rfl rfl <| o_i2b W2 (v := (((own_lo x1) >>> ((0 : Int32) &&& 31)).toInt8.toInt32)) 43 (hb hy d24_42) rfl rfl ?_
  refine o_stB W2 z3 (i := 2) (x' := (((own_lo x1) >>> ((0 : Int32) &&& 31)).toInt8.toInt32)) (by decide) (by decide) (by decide) (Nat.lt_of_sub_eq_succ rfl) (own_b8 _) (vs' := [(.int (((own_hi x1) >>> ((0 : Int32) &&& 31)).toInt8.toInt32)), (.int (((own_hi x1) >>> ((8 : Int32) &&& 31)).toInt8.toInt32)), (.int (((own_lo x1) >>> ((0 : Int32) &&& 31)).toInt8.toInt32)), iZ, iZ, iZ]) rfl z4 m0 tri 44 (hb hy d24_43) rfl ?_
  intro T3 h3 lo3 W3 R3 V3
  refine o_aloadN W3 45 (hb hy d24_44) rfl rfl rfl <| o_iloadN W3 46 (hb hy d24_45) rfl rfl <| o_iloadN W3 47 (hb hy d24_46) rfl rfl ?_
  refine o_getS W3 (w109 hw) Via.refl (z5.ext W3.ox) 50 (hb hy d24_47) rfl ?_
  intro T4 W4
  refine o_ishr W4 (v := ((own_lo x1) >>> ((8 : Int32) &&& 31))) 51 (hb hy d24_50) rfl rfl <| o_i2b W4 (v := (((own_lo x1) >>> ((8 : Int32) &&& 31)).toInt8.toInt32)) 52 (hb hy d24_51) rfl rfl ?_
  refine o_stB W4 V3 (i := 3) (x' := (((own_lo x1) >>> ((8 : Int32) &&& 31)).toInt8.toInt32)) (by decide) (by decide) (by decide) (Nat.lt_of_sub_eq_succ rfl) (own_b8 _) (vs' := [(.int (((own_hi x1) >>> ((0 : Int32) &&& 31)).toInt8.toInt32)), (.int (((own_hi x1) >>> ((8 : Int32) &&& 31)).toInt8.toInt32)), (.int (((own_lo x1) >>> ((0 : Int32) &&& 31)).toInt8.toInt32)), (.int (((own_lo x1) >>> ((8 : Int32) &&& 31)).toInt8.toInt32)), iZ, iZ]) rfl z4 m0 tri 53 (hb hy d24_52) rfl ?_
  intro T5 h5 lo5 W5 R5 V5
  exact o_ret0 W5 hlk hret (hb hy d24_53) (by decide) (by decide) ⟨V5, rfl⟩
theorem rm138 (l : Launch) {Z a0} (hw : HW Z a0) (a1 : Addr) (x1 : Int32) (z0 : ClassId) (x2 : Int32) (h0 : Heap) (O0 : Old Z Z.heap.size h0) (z1 : Sta Z Z.heap s0 s2 "Z" (.int 1)) (z2 : Sta Z Z.heap s0 s3 "I" iZ) (z3 : Arv Z h0 a1 z0 .byte 6 [(.int (((own_hi x2) >>> ((0 : Int32) &&& 31)).toInt8.toInt32)), (.int (((own_hi x2) >>> ((8 : Int32) &&& 31)).toInt8.toInt32)), (.int (((own_lo x2) >>> ((0 : Int32) &&& 31)).toInt8.toInt32)), (.int (((own_lo x2) >>> ((8 : Int32) &&& 31)).toInt8.toInt32)), iZ, iZ] iZ) (z4 : Z.heap.size ≤ a1) (z5 : Sta Z Z.heap s0 s4 "I" (.int 8)) :
    CtrN l Z mn24 jdk_52_method_4_code 3 none [] (⟨0, 0, 0, 0⟩ : Room) #[(.ref a1), (.int 2), (.int x1)] h0 [a1] (fun v h => Arv Z h a1 z0 .byte 6 [(.int (((own_hi x2) >>> ((0 : Int32) &&& 31)).toInt8.toInt32)), (.int (((own_hi x2) >>> ((8 : Int32) &&& 31)).toInt8.toInt32)), (.int (((own_lo x2) >>> ((0 : Int32) &&& 31)).toInt8.toInt32)), (.int (((own_lo x2) >>> ((8 : Int32) &&& 31)).toInt8.toInt32)), (.int (bH x1)), (.int (bL x1))] iZ ∧ v = none) := by
  refine CtrN.intro (L0 := #[vr a1, vi 2, vi x1]) (plainFor_of_name pn5) O0 (own_entry rfl) ?_
  intro p e s m below meth c T0 hy hml hret hlk hnm W0
  refine o_getS W0 (w107 hw) Via.refl (z1.ext W0.ox) 3 (hb hy d24_0) rfl ?_
  intro T1 W1
  refine o_ifY W1 28 (hb hy d24_3) (XT.i0_ne_t (by decide)) (by decide) rfl <| o_iloadN W1 29 (hb hy d24_28) rfl rfl <| o_iconst W1 (v := 1) 30 (hb hy d24_29) rfl rfl <| o_ishl W1 (v := 4) 31 (hb hy d24_30) (by decide) rfl <| o_istoreN W1 (L' := #[vr a1, vi 4, vi x1]) 32 (hb hy d24_31) rfl rfl <| o_aloadN W1 33 (hb hy d24_32) rfl rfl rfl ?_
  refine o_iloadN W1 34 (hb hy d24_33) rfl rfl <| o_iinc W1 (v := 5) (L' := #[vr a1, vi 5, vi x1]) 37 (hb hy d24_34) rfl (by decide) rfl rfl <| o_iloadN W1 38 (hb hy d24_37) rfl rfl ?_
  refine o_getS W1 (w108 hw) Via.refl (z2.ext W1.ox) 41 (hb hy d24_38) rfl ?_
  intro T2 W2
  refine o_ishr W2 (v := (x1 >>> ((0 : Int32) &&& 31))) 42 (hb hy d24_41) rfl rfl <| o_i2b W2 (v := (bH x1)) 43 (hb hy d24_42) rfl rfl ?_
  refine o_stB W2 z3 (i := 4) (x' := (bH x1)) (by decide) (by decide) (by decide) (Nat.lt_of_sub_eq_succ rfl) (own_b8 _) (vs' := [(.int (((own_hi x2) >>> ((0 : Int32) &&& 31)).toInt8.toInt32)), (.int (((own_hi x2) >>> ((8 : Int32) &&& 31)).toInt8.toInt32)), (.int (((own_lo x2) >>> ((0 : Int32) &&& 31)).toInt8.toInt32)), (.int (((own_lo x2) >>> ((8 : Int32) &&& 31)).toInt8.toInt32)), (.int (bH x1)), iZ]) rfl z4 m0 tri 44 (hb hy d24_43) rfl ?_
  intro T3 h3 lo3 W3 R3 V3
  refine o_aloadN W3 45 (hb hy d24_44) rfl rfl rfl <| o_iloadN W3 46 (hb hy d24_45) rfl rfl <| o_iloadN W3 47 (hb hy d24_46) rfl rfl ?_
  refine o_getS W3 (w109 hw) Via.refl (z5.ext W3.ox) 50 (hb hy d24_47) rfl ?_
  intro T4 W4
  refine o_ishr W4 (v := (x1 >>> ((8 : Int32) &&& 31))) 51 (hb hy d24_50) rfl rfl <| o_i2b W4 (v := (bL x1)) 52 (hb hy d24_51) rfl rfl ?_
  refine o_stB W4 V3 (i := 5) (x' := (bL x1)) (by decide) (by decide) (by decide) (Nat.lt_of_sub_eq_succ rfl) (own_b8 _) (vs' := [(.int (((own_hi x2) >>> ((0 : Int32) &&& 31)).toInt8.toInt32)), (.int (((own_hi x2) >>> ((8 : Int32) &&& 31)).toInt8.toInt32)), (.int (((own_lo x2) >>> ((0 : Int32) &&& 31)).toInt8.toInt32)), (.int (((own_lo x2) >>> ((8 : Int32) &&& 31)).toInt8.toInt32)), (.int (bH x1)), (.int (bL x1))]) rfl z4 m0 tri 53 (hb hy d24_52) rfl ?_
  intro T5 h5 lo5 W5 R5 V5
  exact o_ret0 W5 hlk hret (hb hy d24_53) (by decide) (by decide) ⟨V5, rfl⟩
theorem rm139 (l : Launch) {Z a0} (hw : HW Z a0) (a1 : Addr) (z0 : ClassId) (x1 x2 : Int32) (h0 : Heap) (O0 : Old Z Z.heap.size h0) (z1 : Arv Z h0 a1 z0 .char 3 [(.int (own_hi x1)), (.int (own_lo x1)), (.int x2)] iZ) (z2 : Sta Z Z.heap s0 s2 "Z" (.int 1)) (z3 : Sta Z Z.heap s0 s3 "I" iZ) (z4 : Sta Z Z.heap s0 s4 "I" (.int 8)) :
    CtrN l Z mn25 jdk_52_method_14_code 5 (some (.array .byte)) [] (⟨2, 1, 6, 24⟩ : Room) #[(.ref a1), iZ, (.int 3)] h0 [] (fun v h => ∃ r1 : Addr, ∃ r2 : ClassId, h0.size ≤ r1 ∧ Arv Z h r1 r2 .byte 6 [(.int (((own_hi x1) >>> ((0 : Int32) &&& 31)).toInt8.toInt32)), (.int (((own_hi x1) >>> ((8 : Int32) &&& 31)).toInt8.toInt32)), (.int (((own_lo x1) >>> ((0 : Int32) &&& 31)).toInt8.toInt32)), (.int (((own_lo x1) >>> ((8 : Int32) &&& 31)).toInt8.toInt32)), (.int (bH x2)), (.int (bL x2))] iZ ∧ v = some (.ref r1)) := by
  refine CtrN.intro (L0 := #[vr a1, vi 0, vi 3, un, un]) (plainFor_of_name pn5) O0 (own_entry rfl) ?_
  intro p e s m below meth c T0 hy hml hret hlk hnm W0
  refine o_iloadN W0 1 (hb hy d21_0) rfl rfl ?_
  refine o_staticC W0 (w97 hw) (w98 hw) (w60 hw) (w99 hw) (by decide) (rm106 l hw  h0 W0.old ) 0 1 6 (by decide) (by rw [hml]; rfl) (lenOf pd15 rfl) [] rfl rfl 4 (hb hy d21_1) rfl rfl rfl all0 tri ?_
  intro v1 T1 h1 lo1 W1 K1 q1
  obtain ⟨r1_1, r2_1, P1_0, P1_1, rfl⟩ := q1.2.2
  show Gl _ _ _ _ _ _ _ _ [(.ref r1_1)]
  refine o_astoreN W1 (L' := #[vr a1, vi 0, vi 3, vr r1_1, un]) 5 (hb hy d21_4) rfl rfl rfl <| o_iconst W1 (v := 0) 6 (hb hy d21_5) rfl rfl <| o_istore W1 (L' := #[vr a1, vi 0, vi 3, vr r1_1, vi 0]) 8 (hb hy d21_6) rfl rfl <| o_iload W1 10 (hb hy d21_8) rfl rfl <| o_iloadN W1 11 (hb hy d21_10) rfl rfl <| o_icmpN W1 14 (hb hy d21_11) (XT.ii_ge_f (by decide)) rfl ?_
  refine o_aloadN W1 15 (hb hy d21_14) rfl rfl rfl <| o_iload W1 17 (hb hy d21_15) rfl rfl <| o_aloadN W1 18 (hb hy d21_17) rfl rfl rfl <| o_iloadN W1 19 (hb hy d21_18) rfl rfl ?_
  have c2 := (z1.keep K1 nin0)
  refine o_caload W1 c2 (x := (own_hi x1)) (i := 0) (by decide) (by decide) (by decide) rfl 20 (hb hy d21_19) rfl ?_
  refine o_staticC W1 (w104 hw) (w105 hw) (w60 hw) (w106 hw) (by decide) (rm136 l hw r1_1 x1 r2_1 h1 W1.old z2 z3 P1_1 (Nat.le_trans W0.zs P1_0) z4) 0 1 6 (by decide) (by rw [hml]; rfl) (lenOf pd16 rfl) [] rfl rfl 23 (hb hy d21_20) rfl rfl rfl (allS ⟨(Nat.le_trans W0.zs P1_0), (Or.inr (Nat.le_trans W0.keep.1 P1_0))⟩ all0) tri ?_
  intro v3 T3 h3 lo3 W3 K3 q3
  obtain ⟨P3_0, rfl⟩ := q3.2.2
  show Gl _ _ _ _ _ _ _ _ []
  refine o_iinc W3 (v := 1) (L' := #[vr a1, vi 1, vi 3, vr r1_1, vi 0]) 26 (hb hy d21_23) rfl (by decide) rfl rfl <| o_iinc W3 (v := 1) (L' := #[vr a1, vi 1, vi 3, vr r1_1, vi 1]) 29 (hb hy d21_26) rfl (by decide) rfl rfl <| o_goto W3 8 (hb hy d21_29) (by decide) rfl <| o_iload W3 10 (hb hy d21_8) rfl rfl <| o_iloadN W3 11 (hb hy d21_10) rfl rfl <| o_icmpN W3 14 (hb hy d21_11) (XT.ii_ge_f (by decide)) rfl ?_
  refine o_aloadN W3 15 (hb hy d21_14) rfl rfl rfl <| o_iload W3 17 (hb hy d21_15) rfl rfl <| o_aloadN W3 18 (hb hy d21_17) rfl rfl rfl <| o_iloadN W3 19 (hb hy d21_18) rfl rfl ?_
  have c4 := (c2.keep K3 (ninS (own_ne z1.lt P1_0) nin0))
  refine o_caload W3 c4 (x := (own_lo x1)) (i := 1) (by decide) (by decide) (by decide) rfl 20 (hb hy d21_19) rfl ?_
  refine o_staticC W3 (w104 hw) (w105 hw) (w60 hw) (w106 hw) (by decide) (rm137 l hw r1_1 x1 r2_1 h3 W3.old z2 z3 P3_0 (Nat.le_trans W0.zs P1_0) z4) 0 1 6 (by decide) (by rw [hml]; rfl) (lenOf pd16 rfl) [] rfl rfl 23 (hb hy d21_20) rfl rfl rfl (allS ⟨(Nat.le_trans W0.zs P1_0), (Or.inr (Nat.le_trans W0.keep.1 P1_0))⟩ all0) tri ?_
  intro v5 T5 h5 lo5 W5 K5 q5
  obtain ⟨P5_0, rfl⟩ := q5.2.2
  show Gl _ _ _ _ _ _ _ _ []
  refine o_iinc W5 (v := 2) (L' := #[vr a1, vi 2, vi 3, vr r1_1, vi 1]) 26 (hb hy d21_23) rfl (by decide) rfl rfl <| o_iinc W5 (v := 2) (L' := #[vr a1, vi 2, vi 3, vr r1_1, vi 2]) 29 (hb hy d21_26) rfl (by decide) rfl rfl <| o_goto W5 8 (hb hy d21_29) (by decide) rfl <| o_iload W5 10 (hb hy d21_8) rfl rfl <| o_iloadN W5 11 (hb hy d21_10) rfl rfl <| o_icmpN W5 14 (hb hy d21_11) (XT.ii_ge_f (by decide)) rfl ?_
  refine o_aloadN W5 15 (hb hy d21_14) rfl rfl rfl <| o_iload W5 17 (hb hy d21_15) rfl rfl <| o_aloadN W5 18 (hb hy d21_17) rfl rfl rfl <| o_iloadN W5 19 (hb hy d21_18) rfl rfl ?_
  have c6 := (c4.keep K5 (ninS (own_ne z1.lt P1_0) nin0))
  refine o_caload W5 c6 (x := x2) (i := 2) (by decide) (by decide) (by decide) rfl 20 (hb hy d21_19) rfl ?_
  refine o_staticC W5 (w104 hw) (w105 hw) (w60 hw) (w106 hw) (by decide) (rm138 l hw r1_1 x2 r2_1 x1 h5 W5.old z2 z3 P5_0 (Nat.le_trans W0.zs P1_0) z4) 0 1 6 (by decide) (by rw [hml]; rfl) (lenOf pd16 rfl) [] rfl rfl 23 (hb hy d21_20) rfl rfl rfl (allS ⟨(Nat.le_trans W0.zs P1_0), (Or.inr (Nat.le_trans W0.keep.1 P1_0))⟩ all0) tri ?_
  intro v7 T7 h7 lo7 W7 K7 q7
  obtain ⟨P7_0, rfl⟩ := q7.2.2
  show Gl _ _ _ _ _ _ _ _ []
  refine o_iinc W7 (v := 3) (L' := #[vr a1, vi 3, vi 3, vr r1_1, vi 2]) 26 (hb hy d21_23) rfl (by decide) rfl rfl <| o_iinc W7 (v := 3) (L' := #[vr a1, vi 3, vi 3, vr r1_1, vi 3]) 29 (hb hy d21_26) rfl (by decide) rfl rfl <| o_goto W7 8 (hb hy d21_29) (by decide) rfl <| o_iload W7 10 (hb hy d21_8) rfl rfl <| o_iloadN W7 11 (hb hy d21_10) rfl rfl <| o_icmpY W7 32 (hb hy d21_11) (XT.ii_ge_t (by decide)) (by decide) rfl ?_
  refine o_aloadN W7 33 (hb hy d21_32) rfl rfl rfl ?_
  exact o_retA W7 hlk (v := (.ref r1_1)) hret rfl rfl (hb hy d21_33) (by decide) (by decide) ⟨r1_1, r2_1, (Nat.le_trans W0.keep.1 P1_0), P7_0, rfl⟩
theorem rm140 (l : Launch) {Z a0} (hw : HW Z a0) (a1 : Addr) (z0 : ClassId) (x1 x2 : Int32) (h0 : Heap) (O0 : Old Z Z.heap.size h0) (z1 : Sta Z Z.heap s0 s2 "Z" (.int 1)) (z2 : Arv Z h0 a1 z0 .byte 6 [(.int (((own_hi x1) >>> ((0 : Int32) &&& 31)).toInt8.toInt32)), (.int (((own_hi x1) >>> ((8 : Int32) &&& 31)).toInt8.toInt32)), (.int (((own_lo x1) >>> ((0 : Int32) &&& 31)).toInt8.toInt32)), (.int (((own_lo x1) >>> ((8 : Int32) &&& 31)).toInt8.toInt32)), (.int (bH x2)), (.int (bL x2))] iZ) (z3 : Sta Z Z.heap s0 s3 "I" iZ) (z4 : Sta Z Z.heap s0 s4 "I" (.int 8)) :
    CtrN l Z mn26 jdk_52_method_5_code 2 (some .char) [] (⟨0, 0, 0, 0⟩ : Room) #[(.ref a1), iZ] h0 [] (fun v h => v = some (.int (own_hi x1))) := by
  refine CtrN.intro (L0 := #[vr a1, vi 0]) (plainFor_of_name pn5) O0 (own_entry rfl) ?_
  intro p e s m below meth c T0 hy hml hret hlk hnm W0
  refine o_getS W0 (w107 hw) Via.refl (z1.ext W0.ox) 3 (hb hy d25_0) rfl ?_
  intro T1 W1
  refine o_ifY W1 28 (hb hy d25_3) (XT.i0_ne_t (by decide)) (by decide) rfl <| o_iloadN W1 29 (hb hy d25_28) rfl rfl <| o_iconst W1 (v := 1) 30 (hb hy d25_29) rfl rfl <| o_ishl W1 (v := 0) 31 (hb hy d25_30) (by decide) rfl <| o_istoreN W1 (L' := #[vr a1, vi 0]) 32 (hb hy d25_31) rfl rfl <| o_aloadN W1 33 (hb hy d25_32) rfl rfl rfl ?_
  refine o_iloadN W1 34 (hb hy d25_33) rfl rfl <| o_iinc W1 (v := 1) (L' := #[vr a1, vi 1]) 37 (hb hy d25_34) rfl (by decide) rfl rfl <| o_baload W1 z2 (x := (((own_hi x1) >>> ((0 : Int32) &&& 31)).toInt8.toInt32)) (i := 0) (by decide) (by decide) (by decide) rfl 38 (hb hy d25_37) rfl <| o_sipush W1 (v := 255) 41 (hb hy d25_38) (by decide) rfl <| o_iand W1 (v := ((((own_hi x1) >>> ((0 : Int32) &&& 31)).toInt8.toInt32) &&& 255)) 42 (hb hy d25_41) rfl rfl ?_
  refine o_getS W1 (w108 hw) Via.refl (z3.ext W1.ox) 45 (hb hy d25_42) rfl ?_
  intro T2 W2
  refine o_ishl W2 (v := (((((own_hi x1) >>> ((0 : Int32) &&& 31)).toInt8.toInt32) &&& 255) <<< ((0 : Int32) &&& 31))) 46 (hb hy d25_45) rfl rfl <| o_aloadN W2 47 (hb hy d25_46) rfl rfl rfl <| o_iloadN W2 48 (hb hy d25_47) rfl rfl <| o_baload W2 z2 (x := (((own_hi x1) >>> ((8 : Int32) &&& 31)).toInt8.toInt32)) (i := 1) (by decide) (by decide) (by decide) rfl 49 (hb hy d25_48) rfl <| o_sipush W2 (v := 255) 52 (hb hy d25_49) (by decide) rfl <| o_iand W2 (v := ((((own_hi x1) >>> ((8 : Int32) &&& 31)).toInt8.toInt32) &&& 255)) 53 (hb hy d25_52) rfl rfl ?_
  refine o_getS W2 (w109 hw) Via.refl (z4.ext W2.ox) 56 (hb hy d25_53) rfl ?_
  intro T3 W3
  refine o_ishl W3 (v := (((((own_hi x1) >>> ((8 : Int32) &&& 31)).toInt8.toInt32) &&& 255) <<< ((8 : Int32) &&& 31))) 57 (hb hy d25_56) rfl rfl <| o_ior W3 (v := ((((((own_hi x1) >>> ((0 : Int32) &&& 31)).toInt8.toInt32) &&& 255) <<< ((0 : Int32) &&& 31)) ||| (((((own_hi x1) >>> ((8 : Int32) &&& 31)).toInt8.toInt32) &&& 255) <<< ((8 : Int32) &&& 31)))) 58 (hb hy d25_57) rfl rfl <| o_i2c W3 (v := (own_hi x1)) 59 (hb hy d25_58) (own_join (own_hic _)) rfl ?_
  exact o_retN W3 hlk (t := .char) hret (by simp) (z' := (own_hi x1)) (own_i2cc (own_hic _)) (hb hy d25_59) (by decide) (by decide) rfl
theorem rm141 (l : Launch) {Z a0} (hw : HW Z a0) (a1 : Addr) (z0 : ClassId) (x1 x2 : Int32) (h0 : Heap) (O0 : Old Z Z.heap.size h0) (z1 : Arv Z h0 a1 z0 .char 3 [(.int (own_hi x1)), (.int (own_lo x1)), (.int x2)] iZ) (hu3 : own_cp x1) (hc4 : ¬ (x1 < (65536 : Int32))) (z2 : Sta Z Z.heap s0 s2 "Z" (.int 1)) (z3 : Sta Z Z.heap s0 s3 "I" iZ) (z4 : Sta Z Z.heap s0 s4 "I" (.int 8)) :
    CtrN l Z mn17 jdk_52_method_16_code 6 (some (.array .byte)) [] (⟨3, 2, 9, 40⟩ : Room) #[(.ref a1), iZ, (.int 3)] h0 [] (fun v h => ∃ r1 : Addr, ∃ r2 : ClassId, h0.size ≤ r1 ∧ Arv Z h r1 r2 .byte 6 [(.int (((own_hi x1) >>> ((0 : Int32) &&& 31)).toInt8.toInt32)), (.int (((own_hi x1) >>> ((8 : Int32) &&& 31)).toInt8.toInt32)), (.int (((own_lo x1) >>> ((0 : Int32) &&& 31)).toInt8.toInt32)), (.int (((own_lo x1) >>> ((8 : Int32) &&& 31)).toInt8.toInt32)), (.int (bH x2)), (.int (bL x2))] iZ ∧ v = some (.ref r1)) := by
  refine CtrN.intro (L0 := #[vr a1, vi 0, vi 3, un, un, un]) (plainFor_of_name pn5) O0 (own_entry rfl) ?_
  intro p e s m below meth c T0 hy hml hret hlk hnm W0
  refine o_iloadN W0 1 (hb hy d12_0) rfl rfl ?_
  refine o_newP W0 (aty := .byte) (w25 hw) tri (by decide) (cap := 3) (by decide) (by decide) 3 (hb hy d12_1) rfl (cells' := 1) (slots' := 3) rfl rfl (by decide) (by decide) (vs := [iZ, iZ, iZ]) (dv := iZ) rfl rfl ?_
  intro b1 T1 h1 k1 W1 E1 ge1 gz1 gb1 V1
  refine o_astoreN W1 (L' := #[vr a1, vi 0, vi 3, vr b1, un, un]) 4 (hb hy d12_3) rfl rfl rfl <| o_aloadN W1 5 (hb hy d12_4) rfl rfl rfl <| o_iloadN W1 6 (hb hy d12_5) rfl rfl <| o_aloadN W1 7 (hb hy d12_6) rfl rfl rfl <| o_iconst W1 (v := 0) 8 (hb hy d12_7) rfl rfl <| o_iloadN W1 9 (hb hy d12_8) rfl rfl ?_
  have c2 := (z1.ext E1)
  refine o_staticC W1 (w62 hw) (w63 hw) (w60 hw) (w64 hw) (by decide) (rm135 l hw a1 b1 z0 x1 x2 h1 W1.old c2 hu3 hc4) 0 1 3 (by decide) (by rw [hml]; rfl) (lenOf pd9 rfl) [] rfl rfl 12 (hb hy d12_9) rfl rfl rfl all0 tri ?_
  intro v5 T5 h5 lo5 W5 K5 q5
  obtain rfl := q5.2.2
  show Gl _ _ _ _ _ _ _ _ [iZ]
  refine o_istore W5 (L' := #[vr a1, vi 0, vi 3, vr b1, vi 0, un]) 14 (hb hy d12_12) rfl rfl <| o_iload W5 16 (hb hy d12_14) rfl rfl <| o_iloadN W5 17 (hb hy d12_16) rfl rfl <| o_icmpN W5 20 (hb hy d12_17) (XT.ii_eq_f (by decide)) rfl <| o_aloadN W5 21 (hb hy d12_20) rfl rfl rfl <| o_iloadN W5 22 (hb hy d12_21) rfl rfl ?_
  refine o_iloadN W5 23 (hb hy d12_22) rfl rfl ?_
  have c6 := (c2.keep K5 nin0)
  refine o_staticC W5 (w94 hw) (w95 hw) (w60 hw) (w96 hw) (by decide) (rm139 l hw a1 z0 x1 x2 h5 W5.old c6 z2 z3 z4) 0 2 9 (by decide) (by rw [hml]; rfl) (lenOf pd10 rfl) [] rfl rfl 26 (hb hy d12_23) rfl rfl rfl all0 tri ?_
  intro v7 T7 h7 lo7 W7 K7 q7
  obtain ⟨r1_7, r2_7, P7_0, P7_1, rfl⟩ := q7.2.2
  show Gl _ _ _ _ _ _ _ _ [(.ref r1_7)]
  refine o_astore W7 (L' := #[vr a1, vi 0, vi 3, vr b1, vi 0, vr r1_7]) 28 (hb hy d12_26) rfl rfl rfl <| o_aload W7 30 (hb hy d12_28) rfl rfl rfl <| o_iload W7 32 (hb hy d12_30) rfl rfl ?_
  refine o_staticC W7 (w110 hw) (w111 hw) (w60 hw) (w112 hw) (by decide) (rm140 l hw r1_7 r2_7 x1 x2 h7 W7.old z2 P7_1 z3 z4) 0 2 9 (by decide) (by rw [hml]; rfl) (lenOf pd17 rfl) [] rfl rfl 35 (hb hy d12_32) rfl rfl rfl all0 tri ?_
  intro v8 T8 h8 lo8 W8 K8 q8
  obtain rfl := q8.2.2
  show Gl _ _ _ _ _ _ _ _ [(.int (own_hi x1))]
  refine o_sipush W8 (v := 255) 38 (hb hy d12_35) (by decide) rfl <| o_icmpY W8 54 (hb hy d12_38) (XT.ii_gt_t (own_hiI (own_spI hu3 hc4)).2.2) (by decide) rfl <| o_aload W8 56 (hb hy d12_54) rfl rfl rfl ?_
  have c9 := (P7_1.keep K8 nin0)
  exact o_retA W8 hlk (v := (.ref r1_7)) hret rfl rfl (hb hy d12_56) (by decide) (by decide) ⟨r1_7, r2_7, (Nat.le_trans W5.keep.1 P7_0), c9, rfl⟩
theorem rm142 (l : Launch) {Z a0} (hw : HW Z a0) (a1 : Addr) (z0 : ClassId) (x1 x2 : Int32) (h0 : Heap) (O0 : Old Z Z.heap.size h0) (z1 : Arv Z h0 a1 z0 .byte 6 [(.int (((own_hi x1) >>> ((0 : Int32) &&& 31)).toInt8.toInt32)), (.int (((own_hi x1) >>> ((8 : Int32) &&& 31)).toInt8.toInt32)), (.int (((own_lo x1) >>> ((0 : Int32) &&& 31)).toInt8.toInt32)), (.int (((own_lo x1) >>> ((8 : Int32) &&& 31)).toInt8.toInt32)), (.int (bH x2)), (.int (bL x2))] iZ) :
    CtrN l Z mn18 jdk_52_method_15_code 2 (some .byte) [] (⟨0, 0, 0, 0⟩ : Room) #[(.ref a1), (.int 3)] h0 [] (fun v h => v = some (.int 1)) := by
  refine CtrN.intro (L0 := #[vr a1, vi 3]) (plainFor_of_name pn5) O0 (own_entry rfl) ?_
  intro p e s m below meth c T0 hy hml hret hlk hnm W0
  refine o_iloadN W0 1 (hb hy d14_0) rfl rfl <| o_aloadN W0 2 (hb hy d14_1) rfl rfl rfl <| o_len W0 z1 3 (hb hy d14_2) rfl <| o_isub W0 (v := (-3 : Int32)) 4 (hb hy d14_3) (by decide) rfl <| o_bipush W0 (v := 31) 6 (hb hy d14_4) (by decide) rfl <| o_iushr W0 (v := 1) 7 (hb hy d14_6) (by decide) rfl ?_
  refine o_i2b W0 (v := 1) 8 (hb hy d14_7) (by decide) rfl ?_
  exact o_retN W0 hlk (t := .byte) hret (by simp) (z' := (1 : Int32)) (by decide) (hb hy d14_8) (by decide) (by decide) rfl
theorem rm143 (l : Launch) {Z a0} (hw : HW Z a0) (gCS : Int32) (a1 a2 : Addr) (z0 : ClassId) (x1 x2 : Int32) (h0 : Heap) (O0 : Old Z Z.heap.size h0) (SgCS : Sta Z Z.heap s1 s5 "Z" (.int gCS)) (NgCS : ¬ (gCS = (0 : Int32))) (z1 : Arv Z h0 a2 z0 .char 3 [(.int (own_hi x1)), (.int (own_lo x1)), (.int x2)] iZ) (hu3 : own_cp x1) (hc4 : ¬ (x1 < (65536 : Int32))) (z2 : Sta Z Z.heap s0 s2 "Z" (.int 1)) (z3 : Sta Z Z.heap s0 s3 "I" iZ) (z4 : Sta Z Z.heap s0 s4 "I" (.int 8)) (z5 : Exa Z h0 a1 s1) (z6 : Fld Z h0 a1 s1 "coder" "B" iZ) (z7 : Z.heap.size ≤ a1) (z8 : Fld Z h0 a1 s1 "value" "[B" .null) :
    CtrN l Z mn8 jdk_42_method_149_code 6 none [] (⟨4, 2, 9, 57⟩ : Room) #[(.ref a1), (.ref a2), iZ, (.int 3), .null] h0 [a1] (fun v h => ∃ r1 : Addr, ∃ r2 : ClassId, h0.size ≤ r1 ∧ Fld Z h a1 s1 "coder" "B" (.int 1) ∧ Fld Z h a1 s1 "value" "[B" (.ref r1) ∧ Arv Z h r1 r2 .byte 6 [(.int (((own_hi x1) >>> ((0 : Int32) &&& 31)).toInt8.toInt32)), (.int (((own_hi x1) >>> ((8 : Int32) &&& 31)).toInt8.toInt32)), (.int (((own_lo x1) >>> ((0 : Int32) &&& 31)).toInt8.toInt32)), (.int (((own_lo x1) >>> ((8 : Int32) &&& 31)).toInt8.toInt32)), (.int (bH x2)), (.int (bL x2))] iZ ∧ v = none) := by
  refine CtrN.intro (L0 := #[vr a1, vr a2, vi 0, vi 3, .val .null, un]) (plainFor_of_name pn2) O0 (own_entry rfl) ?_
  intro p e s m below meth c T0 hy hml hret hlk hnm W0
  refine o_aloadN W0 1 (hb hy d4_0) rfl rfl rfl ?_
  refine o_initO W0 (w21 hw) (w22 hw) (w23 hw) (by rw [hml]; rfl) 4 (hb hy d4_1) rfl (by decide) 0 (by exact Nat.le_of_eq rfl) (by decide) ?_
  intro T1 W1
  refine o_iloadN W1 5 (hb hy d4_4) rfl rfl <| o_ifY W1 27 (hb hy d4_5) (XT.i0_ne_t (by decide)) (by decide) rfl ?_
  refine o_getS W1 (w49 hw) Via.refl (SgCS.ext W1.ox) 30 (hb hy d4_27) rfl ?_
  intro T2 W2
  refine o_ifN W2 33 (hb hy d4_30) (XT.i0_eq_f NgCS) rfl <| o_aloadN W2 34 (hb hy d4_33) rfl rfl rfl <| o_iloadN W2 35 (hb hy d4_34) rfl rfl <| o_iloadN W2 36 (hb hy d4_35) rfl rfl ?_
  refine o_staticC W2 (w58 hw) (w59 hw) (w60 hw) (w61 hw) (by decide) (rm141 l hw a2 z0 x1 x2 h0 W2.old z1 hu3 hc4 z2 z3 z4) 0 2 9 (by decide) (by rw [hml]; rfl) (lenOf pd10 rfl) [] rfl rfl 39 (hb hy d4_36) rfl rfl rfl all0 tri ?_
  intro v5 T5 h5 lo5 W5 K5 q5
  obtain ⟨r1_5, r2_5, P5_0, P5_1, rfl⟩ := q5.2.2
  show Gl _ _ _ _ _ _ _ _ [(.ref r1_5)]
  refine o_astore W5 (L' := #[vr a1, vr a2, vi 0, vi 3, .val .null, vr r1_5]) 41 (hb hy d4_39) rfl rfl rfl <| o_aloadN W5 42 (hb hy d4_41) rfl rfl rfl <| o_aload W5 44 (hb hy d4_42) rfl rfl rfl <| o_iloadN W5 45 (hb hy d4_44) rfl rfl ?_
  refine o_staticC W5 (w65 hw) (w66 hw) (w60 hw) (w67 hw) (by decide) (rm142 l hw r1_5 r2_5 x1 x2 h5 W5.old P5_1) 1 2 9 (by decide) (by rw [hml]; rfl) (lenOf pd11 rfl) [(.ref a1)] rfl rfl 48 (hb hy d4_45) rfl rfl rfl all0 tri ?_
  intro v6 T6 h6 lo6 W6 K6 q6
  obtain rfl := q6.2.2
  show Gl _ _ _ _ _ _ _ _ [(.int 1), (.ref a1)]
  have c7 := ((z5.keep K5).keep K6)
  have c8 := ((z6.keep K5 nin0).keep K6 nin0)
  refine o_putF W6 (w31 hw) Via.refl c8 c7 (Or.inr ⟨(w27 hw), rfl, hnm⟩) (w11 hw) (ty := .byte) (v' := (.int 1)) (by decide) rfl (by decide) z7 m0 tri 51 (hb hy d4_48) rfl ?_
  intro T9 h9 lo9 W9 R9
  have F9 := c8.same R9
  refine o_aloadN W9 52 (hb hy d4_51) rfl rfl rfl <| o_aload W9 54 (hb hy d4_52) rfl rfl rfl ?_
  have c10 := (c7.wr R9)
  have c11 := (((z8.keep K5 nin0).keep K6 nin0).other R9 (Or.inr (slot_ne (Or.inr (w26 hw)) (Or.inr (w27 hw)) (by decide) (t := (.array .byte)) (t' := .byte) (by decide) (by decide))))
  refine o_putF W9 (w30 hw) Via.refl c11 c10 (Or.inr ⟨(w26 hw), rfl, hnm⟩) (w11 hw) (ty := (.array .byte)) (v' := (.ref r1_5)) (by decide) rfl rfl z7 m0 tri 57 (hb hy d4_54) rfl ?_
  intro T12 h12 lo12 W12 R12
  have F12 := c11.same R12
  have c13 := (F9.other R12 (Or.inr (slot_ne (Or.inr (w27 hw)) (Or.inr (w26 hw)) (by decide) (t := .byte) (t' := (.array .byte)) (by decide) (by decide))))
  have c14 := (c10.wr R12)
  have c15 := (((P5_1.keep K6 nin0).other R9 (own_ne' z5.lt P5_0)).other R12 (own_ne' z5.lt P5_0))
  exact o_ret0 W12 hlk hret (hb hy d4_57) (by decide) (by decide) ⟨r1_5, r2_5, (Nat.le_trans W2.keep.1 P5_0), c13, F12, c15, rfl⟩
theorem rm144 (l : Launch) {Z a0} (hw : HW Z a0) (gCS : Int32) (a1 a2 : Addr) (z0 : ClassId) (x1 x2 : Int32) (h0 : Heap) (O0 : Old Z Z.heap.size h0) (z1 : Arv Z h0 a2 z0 .char 3 [(.int (own_hi x1)), (.int (own_lo x1)), (.int x2)] iZ) (SgCS : Sta Z Z.heap s1 s5 "Z" (.int gCS)) (NgCS : ¬ (gCS = (0 : Int32))) (hu1 : own_cp x1) (hc2 : ¬ (x1 < (65536 : Int32))) (z2 : Sta Z Z.heap s0 s2 "Z" (.int 1)) (z3 : Sta Z Z.heap s0 s3 "I" iZ) (z4 : Sta Z Z.heap s0 s4 "I" (.int 8)) (z5 : Exa Z h0 a1 s1) (z6 : Fld Z h0 a1 s1 "coder" "B" iZ) (z7 : Fld Z h0 a1 s1 "value" "[B" .null) (z8 : Z.heap.size ≤ a1) :
    CtrN l Z mn9 jdk_42_method_3_code 2 none [] (⟨5, 2, 9, 74⟩ : Room) #[(.ref a1), (.ref a2)] h0 [a1] (fun v h => ∃ r1 : Addr, ∃ r2 : ClassId, h0.size ≤ r1 ∧ Fld Z h a1 s1 "coder" "B" (.int 1) ∧ Fld Z h a1 s1 "value" "[B" (.ref r1) ∧ Arv Z h r1 r2 .byte 6 [(.int (((own_hi x1) >>> ((0 : Int32) &&& 31)).toInt8.toInt32)), (.int (((own_hi x1) >>> ((8 : Int32) &&& 31)).toInt8.toInt32)), (.int (((own_lo x1) >>> ((0 : Int32) &&& 31)).toInt8.toInt32)), (.int (((own_lo x1) >>> ((8 : Int32) &&& 31)).toInt8.toInt32)), (.int (bH x2)), (.int (bL x2))] iZ ∧ v = none) := by
  refine CtrN.intro (L0 := #[vr a1, vr a2]) (plainFor_of_name pn2) O0 (own_entry rfl) ?_
  intro p e s m below meth c T0 hy hml hret hlk hnm W0
  refine o_aloadN W0 1 (hb hy d3_0) rfl rfl rfl <| o_aloadN W0 2 (hb hy d3_1) rfl rfl rfl <| o_iconst W0 (v := 0) 3 (hb hy d3_2) rfl rfl <| o_aloadN W0 4 (hb hy d3_3) rfl rfl rfl <| o_len W0 z1 5 (hb hy d3_4) rfl ?_
  refine o_aconstNull W0 6 (hb hy d3_5) rfl ?_
  refine o_specialC W0 rfl (w17 hw) (w18 hw) (w20 hw) (by decide) (w12 hw) (rm143 l hw gCS a1 a2 z0 x1 x2 h0 W0.old SgCS NgCS z1 hu1 hc2 z2 z3 z4 z5 z6 z8 z7) 0 2 9 (by decide) (by rw [hml]; rfl) (lenOf pd1 rfl) [] rfl rfl 9 (hb hy d3_6) rfl rfl rfl (allS ⟨z8, m0⟩ all0) tri ?_
  intro v3 T3 h3 lo3 W3 K3 q3
  obtain ⟨r1_3, r2_3, P3_0, P3_1, P3_2, P3_3, rfl⟩ := q3.2.2
  show Gl _ _ _ _ _ _ _ _ []
  have c4 := (z5.keep K3)
  exact o_ret0 W3 hlk hret (hb hy d3_9) (by decide) (by decide) ⟨r1_3, r2_3, (Nat.le_trans W0.keep.1 P3_0), P3_1, P3_2, P3_3, rfl⟩
theorem rm145 (l : Launch) {Z a0} (hw : HW Z a0) (gCS : Int32) (a1 a2 : Addr) (z0 : ClassId) (x1 x2 : Int32) (h0 : Heap) (O0 : Old Z Z.heap.size h0) (z1 : Fld Z h0 a1 s1 "value" "[B" (.ref a2)) (z2 : Arv Z h0 a2 z0 .byte 6 [(.int (((own_hi x1) >>> ((0 : Int32) &&& 31)).toInt8.toInt32)), (.int (((own_hi x1) >>> ((8 : Int32) &&& 31)).toInt8.toInt32)), (.int (((own_lo x1) >>> ((0 : Int32) &&& 31)).toInt8.toInt32)), (.int (((own_lo x1) >>> ((8 : Int32) &&& 31)).toInt8.toInt32)), (.int (bH x2)), (.int (bL x2))] iZ) (z3 : Exa Z h0 a1 s1) (SgCS : Sta Z Z.heap s1 s5 "Z" (.int gCS)) (NgCS : ¬ (gCS = (0 : Int32))) (z4 : Fld Z h0 a1 s1 "coder" "B" (.int 1)) :
    CtrN l Z mn0 jdk_42_method_54_code 1 (some .int) [] (⟨1, 0, 0, 14⟩ : Room) #[(.ref a1)] h0 [] (fun v h => v = some (.int 3)) := by
  refine CtrN.intro (L0 := #[vr a1]) (plainFor_of_name pn2) O0 (own_entry rfl) ?_
  intro p e s m below meth c T0 hy hml hret hlk hnm W0
  refine o_aloadN W0 1 (hb hy d8_0) rfl rfl rfl ?_
  refine o_getF W0 (w30 hw) Via.refl z1 4 (hb hy d8_1) rfl ?_
  intro T1 W1
  refine o_len W1 z2 5 (hb hy d8_4) rfl <| o_aloadN W1 6 (hb hy d8_5) rfl rfl rfl ?_
  refine o_virtualC W1 (w44 hw) (w45 hw) (o_nf W1 rfl (w47 hw)) (w47 hw) (w46 hw) (by decide) z3 (w48 hw) (w12 hw) (rm37 l hw gCS a1 h0 W1.old SgCS NgCS z4) 1 0 0 (by decide) (by rw [hml]; rfl) (lenOf pd3 rfl) [(.int 6)] rfl rfl 9 (hb hy d8_6) rfl rfl rfl all0 tri ?_
  intro v2 T2 h2 lo2 W2 K2 q2
  obtain rfl := q2.2.2
  show Gl _ _ _ _ _ _ _ _ [(.int 1), (.int 6)]
  refine o_ishr W2 (v := 3) 10 (hb hy d8_9) (by decide) rfl ?_
  exact o_retI W2 hlk hret (hb hy d8_10) (by decide) (by decide) rfl
theorem rm146 (l : Launch) {Z a0} (hw : HW Z a0) (a1 : Addr) (z0 : ClassId) (x1 x2 : Int32) (h0 : Heap) (O0 : Old Z Z.heap.size h0) (z1 : Sta Z Z.heap s0 s2 "Z" (.int 1)) (z2 : Arv Z h0 a1 z0 .byte 6 [(.int (((own_hi x1) >>> ((0 : Int32) &&& 31)).toInt8.toInt32)), (.int (((own_hi x1) >>> ((8 : Int32) &&& 31)).toInt8.toInt32)), (.int (((own_lo x1) >>> ((0 : Int32) &&& 31)).toInt8.toInt32)), (.int (((own_lo x1) >>> ((8 : Int32) &&& 31)).toInt8.toInt32)), (.int (bH x2)), (.int (bL x2))] iZ) (z3 : Sta Z Z.heap s0 s3 "I" iZ) (z4 : Sta Z Z.heap s0 s4 "I" (.int 8)) :
    CtrN l Z mn26 jdk_52_method_5_code 2 (some .char) [] (⟨0, 0, 0, 0⟩ : Room) #[(.ref a1), (.int 1)] h0 [] (fun v h => v = some (.int (own_lo x1))) := by
  refine CtrN.intro (L0 := #[vr a1, vi 1]) (plainFor_of_name pn5) O0 (own_entry rfl) ?_
  intro p e s m below meth c T0 hy hml hret hlk hnm W0
  refine o_getS W0 (w107 hw) Via.refl (z1.ext W0.ox) 3 (hb hy d25_0) rfl ?_
  intro T1 W1
  refine o_ifY W1 28 (hb hy d25_3) (XT.i0_ne_t (by decide)) (by decide) rfl <| o_iloadN W1 29 (hb hy d25_28) rfl rfl <| o_iconst W1 (v := 1) 30 (hb hy d25_29) rfl rfl <| o_ishl W1 (v := 2) 31 (hb hy d25_30) (by decide) rfl <| o_istoreN W1 (L' := #[vr a1, vi 2]) 32 (hb hy d25_31) rfl rfl <| o_aloadN W1 33 (hb hy d25_32) rfl rfl rfl ?_
  refine o_iloadN W1 34 (hb hy d25_33) rfl rfl <| o_iinc W1 (v := 3) (L' := #[vr a1, vi 3]) 37 (hb hy d25_34) rfl (by decide) rfl rfl <| o_baload W1 z2 (x := (((own_lo x1) >>> ((0 : Int32) &&& 31)).toInt8.toInt32)) (i := 2) (by decide) (by decide) (by decide) rfl 38 (hb hy d25_37) rfl <| o_sipush W1 (v := 255) 41 (hb hy d25_38) (by decide) rfl <| o_iand W1 (v := ((((own_lo x1) >>> ((0 : Int32) &&& 31)).toInt8.toInt32) &&& 255)) 42 (hb hy d25_41) rfl rfl ?_
  refine o_getS W1 (w108 hw) Via.refl (z3.ext W1.ox) 45 (hb hy d25_42) rfl ?_
  intro T2 W2
  refine o_ishl W2 (v := (((((own_lo x1) >>> ((0 : Int32) &&& 31)).toInt8.toInt32) &&& 255) <<< ((0 : Int32) &&& 31))) 46 (hb hy d25_45) rfl rfl <| o_aloadN W2 47 (hb hy d25_46) rfl rfl rfl <| o_iloadN W2 48 (hb hy d25_47) rfl rfl <| o_baload W2 z2 (x := (((own_lo x1) >>> ((8 : Int32) &&& 31)).toInt8.toInt32)) (i := 3) (by decide) (by decide) (by decide) rfl 49 (hb hy d25_48) rfl <| o_sipush W2 (v := 255) 52 (hb hy d25_49) (by decide) rfl <| o_iand W2 (v := ((((own_lo x1) >>> ((8 : Int32) &&& 31)).toInt8.toInt32) &&& 255)) 53 (hb hy d25_52) rfl rfl ?_
  refine o_getS W2 (w109 hw) Via.refl (z4.ext W2.ox) 56 (hb hy d25_53) rfl ?_
  intro T3 W3
  refine o_ishl W3 (v := (((((own_lo x1) >>> ((8 : Int32) &&& 31)).toInt8.toInt32) &&& 255) <<< ((8 : Int32) &&& 31))) 57 (hb hy d25_56) rfl rfl <| o_ior W3 (v := ((((((own_lo x1) >>> ((0 : Int32) &&& 31)).toInt8.toInt32) &&& 255) <<< ((0 : Int32) &&& 31)) ||| (((((own_lo x1) >>> ((8 : Int32) &&& 31)).toInt8.toInt32) &&& 255) <<< ((8 : Int32) &&& 31)))) 58 (hb hy d25_57) rfl rfl <| o_i2c W3 (v := (own_lo x1)) 59 (hb hy d25_58) (own_join (own_loc _)) rfl ?_
  exact o_retN W3 hlk (t := .char) hret (by simp) (z' := (own_lo x1)) (own_i2cc (own_loc _)) (hb hy d25_59) (by decide) (by decide) rfl
theorem rm147 (l : Launch) {Z a0} (hw : HW Z a0) (a1 : Addr) (z0 : ClassId) (x1 x2 : Int32) (h0 : Heap) (O0 : Old Z Z.heap.size h0) (z1 : Sta Z Z.heap s0 s2 "Z" (.int 1)) (z2 : Arv Z h0 a1 z0 .byte 6 [(.int (((own_hi x1) >>> ((0 : Int32) &&& 31)).toInt8.toInt32)), (.int (((own_hi x1) >>> ((8 : Int32) &&& 31)).toInt8.toInt32)), (.int (((own_lo x1) >>> ((0 : Int32) &&& 31)).toInt8.toInt32)), (.int (((own_lo x1) >>> ((8 : Int32) &&& 31)).toInt8.toInt32)), (.int (bH x2)), (.int (bL x2))] iZ) (z3 : Sta Z Z.heap s0 s3 "I" iZ) (z4 : Sta Z Z.heap s0 s4 "I" (.int 8)) (hu4 : own_cp x1) (hc5 : ¬ (x1 < (65536 : Int32))) :
    CtrN l Z mn27 jdk_52_method_7_code 6 (some .int) [] (⟨1, 0, 0, 13⟩ : Room) #[(.ref a1), iZ, (.int 3), iZ] h0 [] (fun v h => v = some (.int x1)) := by
  refine CtrN.intro (L0 := #[vr a1, vi 0, vi 3, vi 0, un, un]) (plainFor_of_name pn5) O0 (own_entry rfl) ?_
  intro p e s m below meth c T0 hy hml hret hlk hnm W0
  refine o_getS W0 (w107 hw) Via.refl (z1.ext W0.ox) 3 (hb hy d28_0) rfl ?_
  intro T1 W1
  refine o_ifY W1 19 (hb hy d28_3) (XT.i0_ne_t (by decide)) (by decide) rfl <| o_iloadN W1 20 (hb hy d28_19) rfl rfl <| o_ifY W1 28 (hb hy d28_20) (XT.i0_eq_t (by decide)) (by decide) rfl <| o_aloadN W1 29 (hb hy d28_28) rfl rfl rfl <| o_iloadN W1 30 (hb hy d28_29) rfl rfl ?_
  refine o_staticC W1 (w110 hw) (w111 hw) (w60 hw) (w112 hw) (by decide) (rm140 l hw a1 z0 x1 x2 h0 W1.old z1 z2 z3 z4) 0 0 0 (by decide) (by rw [hml]; rfl) (lenOf pd17 rfl) [] rfl rfl 33 (hb hy d28_30) rfl rfl rfl all0 tri ?_
  intro v2 T2 h2 lo2 W2 K2 q2
  obtain rfl := q2.2.2
  show Gl _ _ _ _ _ _ _ _ [(.int (own_hi x1))]
  refine o_istore W2 (L' := #[vr a1, vi 0, vi 3, vi 0, vi (own_hi x1), un]) 35 (hb hy d28_33) rfl rfl <| o_iload W2 37 (hb hy d28_35) rfl rfl ?_
  refine o_staticC W2 (w124 hw) (w125 hw) (w115 hw) (w126 hw) (by decide) (rm4 l hw (own_hi x1) h2 W2.old ) 0 0 0 (by decide) (by rw [hml]; rfl) (lenOf pd18 rfl) [] rfl rfl 40 (hb hy d28_37) rfl rfl rfl all0 tri ?_
  intro v3 T3 h3 lo3 W3 K3 q3
  obtain rfl := q3.2.2
  show Gl _ _ _ _ _ _ _ _ [(.int (own_hs (own_hi x1)))]
  refine o_ifN W3 43 (hb hy d28_40) (XT.i0_eq_f (own_hsY (own_spI hu4 hc5))) rfl <| o_iinc W3 (v := 1) (L' := #[vr a1, vi 1, vi 3, vi 0, vi (own_hi x1), un]) 46 (hb hy d28_43) rfl (by decide) rfl rfl <| o_iloadN W3 47 (hb hy d28_46) rfl rfl <| o_iloadN W3 48 (hb hy d28_47) rfl rfl <| o_icmpN W3 51 (hb hy d28_48) (XT.ii_ge_f (by decide)) rfl <| o_iloadN W3 52 (hb hy d28_51) rfl rfl ?_
  refine o_ifY W3 60 (hb hy d28_52) (XT.i0_eq_t (by decide)) (by decide) rfl <| o_aloadN W3 61 (hb hy d28_60) rfl rfl rfl <| o_iloadN W3 62 (hb hy d28_61) rfl rfl ?_
  have c6 := ((z2.keep K2 nin0).keep K3 nin0)
  refine o_staticC W3 (w110 hw) (w111 hw) (w60 hw) (w112 hw) (by decide) (rm146 l hw a1 z0 x1 x2 h3 W3.old z1 c6 z3 z4) 0 0 0 (by decide) (by rw [hml]; rfl) (lenOf pd17 rfl) [] rfl rfl 65 (hb hy d28_62) rfl rfl rfl all0 tri ?_
  intro v7 T7 h7 lo7 W7 K7 q7
  obtain rfl := q7.2.2
  show Gl _ _ _ _ _ _ _ _ [(.int (own_lo x1))]
  refine o_istore W7 (L' := #[vr a1, vi 1, vi 3, vi 0, vi (own_hi x1), vi (own_lo x1)]) 67 (hb hy d28_65) rfl rfl <| o_iload W7 69 (hb hy d28_67) rfl rfl ?_
  refine o_staticC W7 (w129 hw) (w130 hw) (w115 hw) (w131 hw) (by decide) (rm5 l hw (own_lo x1) h7 W7.old ) 0 0 0 (by decide) (by rw [hml]; rfl) (lenOf pd18 rfl) [] rfl rfl 72 (hb hy d28_69) rfl rfl rfl all0 tri ?_
  intro v8 T8 h8 lo8 W8 K8 q8
  obtain rfl := q8.2.2
  show Gl _ _ _ _ _ _ _ _ [(.int (own_ls (own_lo x1)))]
  refine o_ifN W8 75 (hb hy d28_72) (XT.i0_eq_f (own_lsY (own_spI hu4 hc5))) rfl <| o_iload W8 77 (hb hy d28_75) rfl rfl <| o_iload W8 79 (hb hy d28_77) rfl rfl ?_
  refine o_staticC W8 (w133 hw) (w134 hw) (w115 hw) (w135 hw) (by decide) (rm61 l hw x1 h8 W8.old hu4 hc5) 0 0 0 (by decide) (by rw [hml]; rfl) (lenOf pd22 rfl) [] rfl rfl 82 (hb hy d28_79) rfl rfl rfl all0 tri ?_
  intro v9 T9 h9 lo9 W9 K9 q9
  obtain rfl := q9.2.2
  show Gl _ _ _ _ _ _ _ _ [(.int x1)]
  exact o_retI W9 hlk hret (hb hy d28_82) (by decide) (by decide) rfl
theorem rm148 (l : Launch) {Z a0} (hw : HW Z a0) (a1 : Addr) (z0 : ClassId) (x1 x2 : Int32) (h0 : Heap) (O0 : Old Z Z.heap.size h0) (z1 : Sta Z Z.heap s0 s2 "Z" (.int 1)) (z2 : Arv Z h0 a1 z0 .byte 6 [(.int (((own_hi x1) >>> ((0 : Int32) &&& 31)).toInt8.toInt32)), (.int (((own_hi x1) >>> ((8 : Int32) &&& 31)).toInt8.toInt32)), (.int (((own_lo x1) >>> ((0 : Int32) &&& 31)).toInt8.toInt32)), (.int (((own_lo x1) >>> ((8 : Int32) &&& 31)).toInt8.toInt32)), (.int (bH x2)), (.int (bL x2))] iZ) (z3 : Sta Z Z.heap s0 s3 "I" iZ) (z4 : Sta Z Z.heap s0 s4 "I" (.int 8)) (hu1 : own_cp x1) (hc2 : ¬ (x1 < (65536 : Int32))) :
    CtrN l Z mn28 jdk_52_method_8_code 3 (some .int) [] (⟨2, 0, 0, 30⟩ : Room) #[(.ref a1), iZ, (.int 3)] h0 [] (fun v h => v = some (.int x1)) := by
  refine CtrN.intro (L0 := #[vr a1, vi 0, vi 3]) (plainFor_of_name pn5) O0 (own_entry rfl) ?_
  intro p e s m below meth c T0 hy hml hret hlk hnm W0
  refine o_aloadN W0 1 (hb hy d27_0) rfl rfl rfl <| o_iloadN W0 2 (hb hy d27_1) rfl rfl <| o_iloadN W0 3 (hb hy d27_2) rfl rfl <| o_iconst W0 (v := 0) 4 (hb hy d27_3) rfl rfl ?_
  refine o_staticC W0 (w121 hw) (w122 hw) (w60 hw) (w123 hw) (by decide) (rm147 l hw a1 z0 x1 x2 h0 W0.old z1 z2 z3 z4 hu1 hc2) 0 0 0 (by decide) (by rw [hml]; rfl) (lenOf pd19 rfl) [] rfl rfl 7 (hb hy d27_4) rfl rfl rfl all0 tri ?_
  intro v3 T3 h3 lo3 W3 K3 q3
  obtain rfl := q3.2.2
  show Gl _ _ _ _ _ _ _ _ [(.int x1)]
  exact o_retI W3 hlk hret (hb hy d27_7) (by decide) (by decide) rfl
theorem rm149 (l : Launch) {Z a0} (hw : HW Z a0) (gCS : Int32) (gF : Value) (a1 a2 : Addr) (z0 : ClassId) (x1 x2 : Int32) (h0 : Heap) (O0 : Old Z Z.heap.size h0) (z1 : Exa Z h0 a1 s1) (SgCS : Sta Z Z.heap s1 s5 "Z" (.int gCS)) (NgCS : ¬ (gCS = (0 : Int32))) (z2 : Fld Z h0 a1 s1 "coder" "B" (.int 1)) (z3 : Fld Z h0 a1 s1 "value" "[B" (.ref a2)) (z4 : Arv Z h0 a2 z0 .byte 6 [(.int (((own_hi x1) >>> ((0 : Int32) &&& 31)).toInt8.toInt32)), (.int (((own_hi x1) >>> ((8 : Int32) &&& 31)).toInt8.toInt32)), (.int (((own_lo x1) >>> ((0 : Int32) &&& 31)).toInt8.toInt32)), (.int (((own_lo x1) >>> ((8 : Int32) &&& 31)).toInt8.toInt32)), (.int (bH x2)), (.int (bL x2))] iZ) (SgF : Sta Z Z.heap s6 s7 s8 gF) (NgF : gF.isRef = true) (z5 : Sta Z Z.heap s0 s2 "Z" (.int 1)) (z6 : Sta Z Z.heap s0 s3 "I" iZ) (z7 : Sta Z Z.heap s0 s4 "I" (.int 8)) (hu9 : own_cp x1) (hc10 : ¬ (x1 < (65536 : Int32))) :
    CtrN l Z mn1 jdk_42_method_57_code 3 (some .int) [] (⟨6, 0, 0, 90⟩ : Room) #[(.ref a1), iZ] h0 [] (fun v h => v = some (.int x1)) := by
  refine CtrN.intro (L0 := #[vr a1, vi 0, un]) (plainFor_of_name pn2) O0 (own_entry rfl) ?_
  intro p e s m below meth c T0 hy hml hret hlk hnm W0
  refine o_aloadN W0 1 (hb hy d15_0) rfl rfl rfl ?_
  refine o_virtualC W0 (w73 hw) (w74 hw) (o_nf W0 rfl (w76 hw)) (w76 hw) (w75 hw) (by decide) z1 (w77 hw) (w12 hw) (rm39 l hw gCS a1 h0 W0.old SgCS NgCS z2) 0 0 0 (by decide) (by rw [hml]; rfl) (lenOf pd12 rfl) [] rfl rfl 4 (hb hy d15_1) rfl rfl rfl all0 tri ?_
  intro v1 T1 h1 lo1 W1 K1 q1
  obtain rfl := q1.2.2
  show Gl _ _ _ _ _ _ _ _ [iZ]
  refine o_ifY W1 27 (hb hy d15_4) (XT.i0_eq_t (by decide)) (by decide) rfl <| o_aloadN W1 28 (hb hy d15_27) rfl rfl rfl ?_
  have c2 := (z3.keep K1 nin0)
  refine o_getF W1 (w30 hw) Via.refl c2 31 (hb hy d15_28) rfl ?_
  intro T3 W3
  have c4 := (z4.keep K1 nin0)
  refine o_len W3 c4 32 (hb hy d15_31) rfl <| o_iconst W3 (v := 1) 33 (hb hy d15_32) rfl rfl <| o_ishr W3 (v := 3) 34 (hb hy d15_33) (by decide) rfl <| o_istoreN W3 (L' := #[vr a1, vi 0, vi 3]) 35 (hb hy d15_34) rfl rfl <| o_iloadN W3 36 (hb hy d15_35) rfl rfl <| o_iloadN W3 37 (hb hy d15_36) rfl rfl ?_
  refine o_staticC W3 (w78 hw) (w79 hw) (w12 hw) (w80 hw) (by decide) (rm119 l hw gF h1 W3.old SgF NgF) 0 0 0 (by decide) (by rw [hml]; rfl) (lenOf pd14 rfl) [] rfl rfl 40 (hb hy d15_37) rfl rfl rfl all0 tri ?_
  intro v5 T5 h5 lo5 W5 K5 q5
  obtain rfl := q5.2.2
  show Gl _ _ _ _ _ _ _ _ []
  refine o_aloadN W5 41 (hb hy d15_40) rfl rfl rfl ?_
  have c6 := (c2.keep K5 nin0)
  refine o_getF W5 (w30 hw) Via.refl c6 44 (hb hy d15_41) rfl ?_
  intro T7 W7
  refine o_iloadN W7 45 (hb hy d15_44) rfl rfl <| o_iloadN W7 46 (hb hy d15_45) rfl rfl ?_
  have c8 := (c4.keep K5 nin0)
  refine o_staticC W7 (w118 hw) (w119 hw) (w60 hw) (w120 hw) (by decide) (rm148 l hw a2 z0 x1 x2 h5 W7.old z5 c8 z6 z7 hu9 hc10) 0 0 0 (by decide) (by rw [hml]; rfl) (lenOf pd20 rfl) [] rfl rfl 49 (hb hy d15_46) rfl rfl rfl all0 tri ?_
  intro v11 T11 h11 lo11 W11 K11 q11
  obtain rfl := q11.2.2
  show Gl _ _ _ _ _ _ _ _ [(.int x1)]
  exact o_retI W11 hlk hret (hb hy d15_49) (by decide) (by decide) rfl
theorem rm150 (l : Launch) {Z a0} (hw : HW Z a0)  (h0 : Heap) (O0 : Old Z Z.heap.size h0) :
    CtrN l Z mn20 jdk_41_method_11_code 3 (some .int) [] (⟨0, 0, 0, 0⟩ : Room) #[(.int 2), (.int 3), .null] h0 [] (fun v h => v = some (.int 2)) := by
  refine CtrN.intro (L0 := #[vi 2, vi 3, .val .null]) (plainFor_of_name pn6) O0 (own_entry rfl) ?_
  intro p e s m below meth c T0 hy hml hret hlk hnm W0
  refine o_iloadN W0 1 (hb hy d18_0) rfl rfl <| o_ifN W0 4 (hb hy d18_1) (XT.i0_lt_f (by decide)) rfl <| o_iloadN W0 5 (hb hy d18_4) rfl rfl <| o_iloadN W0 6 (hb hy d18_5) rfl rfl <| o_icmpY W0 16 (hb hy d18_6) (XT.ii_lt_t (by decide)) (by decide) rfl <| o_iloadN W0 17 (hb hy d18_16) rfl rfl ?_
  exact o_retI W0 hlk hret (hb hy d18_17) (by decide) (by decide) rfl
theorem rm151 (l : Launch) {Z a0} (hw : HW Z a0) (a1 : Addr) (h0 : Heap) (O0 : Old Z Z.heap.size h0) :
    CtrN l Z mn20 jdk_41_method_11_code 3 (some .int) [] (⟨0, 0, 0, 0⟩ : Room) #[(.int 2), (.int 3), (.ref a1)] h0 [] (fun v h => v = some (.int 2)) := by
  refine CtrN.intro (L0 := #[vi 2, vi 3, vr a1]) (plainFor_of_name pn6) O0 (own_entry rfl) ?_
  intro p e s m below meth c T0 hy hml hret hlk hnm W0
  refine o_iloadN W0 1 (hb hy d18_0) rfl rfl <| o_ifN W0 4 (hb hy d18_1) (XT.i0_lt_f (by decide)) rfl <| o_iloadN W0 5 (hb hy d18_4) rfl rfl <| o_iloadN W0 6 (hb hy d18_5) rfl rfl <| o_icmpY W0 16 (hb hy d18_6) (XT.ii_lt_t (by decide)) (by decide) rfl <| o_iloadN W0 17 (hb hy d18_16) rfl rfl ?_
  exact o_retI W0 hlk hret (hb hy d18_17) (by decide) (by decide) rfl
theorem rm152 (l : Launch) {Z a0} (hw : HW Z a0) (gF : Value) (h0 : Heap) (O0 : Old Z Z.heap.size h0) (SgF : Sta Z Z.heap s6 s7 s8 gF) (NgF : gF.isRef = true) :
    CtrN l Z mn21 jdk_42_method_155_code 2 none [] (⟨1, 0, 0, 14⟩ : Room) #[(.int 2), (.int 3)] h0 [] (fun v h => v = none) := by
  refine CtrN.intro (L0 := #[vi 2, vi 3]) (plainFor_of_name pn2) O0 (own_entry rfl) ?_
  intro p e s m below meth c T0 hy hml hret hlk hnm W0
  refine o_iloadN W0 1 (hb hy d17_0) rfl rfl <| o_iloadN W0 2 (hb hy d17_1) rfl rfl ?_
  rcases ref_cases NgF with rfl | ⟨aF1, rfl⟩
  · refine o_getS W0 (w81 hw) Via.refl (SgF.ext W0.ox) 5 (hb hy d17_2) rfl ?_
    intro T2 W2
    refine o_staticC W2 (w83 hw) (w84 hw) (w82 hw) (w85 hw) (by decide) (rm150 l hw  h0 W2.old ) 0 0 0 (by decide) (by rw [hml]; rfl) (lenOf pd13 rfl) [] rfl rfl 8 (hb hy d17_5) rfl rfl rfl all0 tri ?_
    intro v3 T3 h3 lo3 W3 K3 q3
    obtain rfl := q3.2.2
    show Gl _ _ _ _ _ _ _ _ [(.int 2)]
    refine o_pop W3 9 (hb hy d17_8) rfl rfl ?_
    exact o_ret0 W3 hlk hret (hb hy d17_9) (by decide) (by decide) rfl
  · refine o_getS W0 (w81 hw) Via.refl (SgF.ext W0.ox) 5 (hb hy d17_2) rfl ?_
    intro T4 W4
    refine o_staticC W4 (w83 hw) (w84 hw) (w82 hw) (w85 hw) (by decide) (rm151 l hw aF1 h0 W4.old ) 0 0 0 (by decide) (by rw [hml]; rfl) (lenOf pd13 rfl) [] rfl rfl 8 (hb hy d17_5) rfl rfl rfl all0 tri ?_
    intro v5 T5 h5 lo5 W5 K5 q5
    obtain rfl := q5.2.2
    show Gl _ _ _ _ _ _ _ _ [(.int 2)]
    refine o_pop W5 9 (hb hy d17_8) rfl rfl ?_
    exact o_ret0 W5 hlk hret (hb hy d17_9) (by decide) (by decide) rfl
theorem rm153 (l : Launch) {Z a0} (hw : HW Z a0) (a1 : Addr) (z0 : ClassId) (x1 x2 : Int32) (h0 : Heap) (O0 : Old Z Z.heap.size h0) (z1 : Sta Z Z.heap s0 s2 "Z" (.int 1)) (z2 : Arv Z h0 a1 z0 .byte 6 [(.int (((own_hi x1) >>> ((0 : Int32) &&& 31)).toInt8.toInt32)), (.int (((own_hi x1) >>> ((8 : Int32) &&& 31)).toInt8.toInt32)), (.int (((own_lo x1) >>> ((0 : Int32) &&& 31)).toInt8.toInt32)), (.int (((own_lo x1) >>> ((8 : Int32) &&& 31)).toInt8.toInt32)), (.int (bH x2)), (.int (bL x2))] iZ) (z3 : Sta Z Z.heap s0 s3 "I" iZ) (z4 : Sta Z Z.heap s0 s4 "I" (.int 8)) (hu4 : own_cp x2) (hc5 : x2 < (65536 : Int32)) :
    CtrN l Z mn26 jdk_52_method_5_code 2 (some .char) [] (⟨0, 0, 0, 0⟩ : Room) #[(.ref a1), (.int 2)] h0 [] (fun v h => v = some (.int x2)) := by
  refine CtrN.intro (L0 := #[vr a1, vi 2]) (plainFor_of_name pn5) O0 (own_entry rfl) ?_
  intro p e s m below meth c T0 hy hml hret hlk hnm W0
  refine o_getS W0 (w107 hw) Via.refl (z1.ext W0.ox) 3 (hb hy d25_0) rfl ?_
  intro T1 W1
  refine o_ifY W1 28 (hb hy d25_3) (XT.i0_ne_t (by decide)) (by decide) rfl <| o_iloadN W1 29 (hb hy d25_28) rfl rfl <| o_iconst W1 (v := 1) 30 (hb hy d25_29) rfl rfl <| o_ishl W1 (v := 4) 31 (hb hy d25_30) (by decide) rfl <| o_istoreN W1 (L' := #[vr a1, vi 4]) 32 (hb hy d25_31) rfl rfl <| o_aloadN W1 33 (hb hy d25_32) rfl rfl rfl ?_
  refine o_iloadN W1 34 (hb hy d25_33) rfl rfl <| o_iinc W1 (v := 5) (L' := #[vr a1, vi 5]) 37 (hb hy d25_34) rfl (by decide) rfl rfl <| o_baload W1 z2 (x := (bH x2)) (i := 4) (by decide) (by decide) (by decide) rfl 38 (hb hy d25_37) rfl <| o_sipush W1 (v := 255) 41 (hb hy d25_38) (by decide) rfl <| o_iand W1 (v := ((bH x2) &&& 255)) 42 (hb hy d25_41) rfl rfl ?_
  refine o_getS W1 (w108 hw) Via.refl (z3.ext W1.ox) 45 (hb hy d25_42) rfl ?_
  intro T2 W2
  refine o_ishl W2 (v := (((bH x2) &&& 255) <<< ((0 : Int32) &&& 31))) 46 (hb hy d25_45) rfl rfl <| o_aloadN W2 47 (hb hy d25_46) rfl rfl rfl <| o_iloadN W2 48 (hb hy d25_47) rfl rfl <| o_baload W2 z2 (x := (bL x2)) (i := 5) (by decide) (by decide) (by decide) rfl 49 (hb hy d25_48) rfl <| o_sipush W2 (v := 255) 52 (hb hy d25_49) (by decide) rfl <| o_iand W2 (v := ((bL x2) &&& 255)) 53 (hb hy d25_52) rfl rfl ?_
  refine o_getS W2 (w109 hw) Via.refl (z4.ext W2.ox) 56 (hb hy d25_53) rfl ?_
  intro T3 W3
  refine o_ishl W3 (v := (((bL x2) &&& 255) <<< ((8 : Int32) &&& 31))) 57 (hb hy d25_56) rfl rfl <| o_ior W3 (v := ((((bH x2) &&& 255) <<< ((0 : Int32) &&& 31)) ||| (((bL x2) &&& 255) <<< ((8 : Int32) &&& 31)))) 58 (hb hy d25_57) rfl rfl <| o_i2c W3 (v := x2) 59 (hb hy d25_58) (own_join (own_cpc hu4 hc5)) rfl ?_
  exact o_retN W3 hlk (t := .char) hret (by simp) (z' := x2) (own_i2cc (own_cpc hu4 hc5)) (hb hy d25_59) (by decide) (by decide) rfl
theorem rm154 (l : Launch) {Z a0} (hw : HW Z a0) (a1 : Addr) (z0 : ClassId) (x1 x2 : Int32) (h0 : Heap) (O0 : Old Z Z.heap.size h0) (z1 : Sta Z Z.heap s0 s2 "Z" (.int 1)) (z2 : Arv Z h0 a1 z0 .byte 6 [(.int (((own_hi x1) >>> ((0 : Int32) &&& 31)).toInt8.toInt32)), (.int (((own_hi x1) >>> ((8 : Int32) &&& 31)).toInt8.toInt32)), (.int (((own_lo x1) >>> ((0 : Int32) &&& 31)).toInt8.toInt32)), (.int (((own_lo x1) >>> ((8 : Int32) &&& 31)).toInt8.toInt32)), (.int (bH x2)), (.int (bL x2))] iZ) (z3 : Sta Z Z.heap s0 s3 "I" iZ) (z4 : Sta Z Z.heap s0 s4 "I" (.int 8)) (hu2 : own_cp x2) (hc3 : x2 < (65536 : Int32)) (hc6 : (own_hs x2) = (0 : Int32)) :
    CtrN l Z mn27 jdk_52_method_7_code 6 (some .int) [] (⟨1, 0, 0, 13⟩ : Room) #[(.ref a1), (.int 2), (.int 3), iZ] h0 [] (fun v h => v = some (.int x2)) := by
  refine CtrN.intro (L0 := #[vr a1, vi 2, vi 3, vi 0, un, un]) (plainFor_of_name pn5) O0 (own_entry rfl) ?_
  intro p e s m below meth c T0 hy hml hret hlk hnm W0
  refine o_getS W0 (w107 hw) Via.refl (z1.ext W0.ox) 3 (hb hy d28_0) rfl ?_
  intro T1 W1
  refine o_ifY W1 19 (hb hy d28_3) (XT.i0_ne_t (by decide)) (by decide) rfl <| o_iloadN W1 20 (hb hy d28_19) rfl rfl <| o_ifY W1 28 (hb hy d28_20) (XT.i0_eq_t (by decide)) (by decide) rfl <| o_aloadN W1 29 (hb hy d28_28) rfl rfl rfl <| o_iloadN W1 30 (hb hy d28_29) rfl rfl ?_
  refine o_staticC W1 (w110 hw) (w111 hw) (w60 hw) (w112 hw) (by decide) (rm153 l hw a1 z0 x1 x2 h0 W1.old z1 z2 z3 z4 hu2 hc3) 0 0 0 (by decide) (by rw [hml]; rfl) (lenOf pd17 rfl) [] rfl rfl 33 (hb hy d28_30) rfl rfl rfl all0 tri ?_
  intro v4 T4 h4 lo4 W4 K4 q4
  obtain rfl := q4.2.2
  show Gl _ _ _ _ _ _ _ _ [(.int x2)]
  refine o_istore W4 (L' := #[vr a1, vi 2, vi 3, vi 0, vi x2, un]) 35 (hb hy d28_33) rfl rfl <| o_iload W4 37 (hb hy d28_35) rfl rfl ?_
  refine o_staticC W4 (w124 hw) (w125 hw) (w115 hw) (w126 hw) (by decide) (rm4 l hw x2 h4 W4.old ) 0 0 0 (by decide) (by rw [hml]; rfl) (lenOf pd18 rfl) [] rfl rfl 40 (hb hy d28_37) rfl rfl rfl all0 tri ?_
  intro v5 T5 h5 lo5 W5 K5 q5
  obtain rfl := q5.2.2
  show Gl _ _ _ _ _ _ _ _ [(.int (own_hs x2))]
  refine o_ifY W5 83 (hb hy d28_40) (XT.i0_eq_t hc6) (by decide) rfl <| o_iload W5 85 (hb hy d28_83) rfl rfl ?_
  exact o_retI W5 hlk hret (hb hy d28_85) (by decide) (by decide) rfl
theorem rm155 (l : Launch) {Z a0} (hw : HW Z a0) (a1 : Addr) (z0 : ClassId) (x1 x2 : Int32) (h0 : Heap) (O0 : Old Z Z.heap.size h0) (z1 : Sta Z Z.heap s0 s2 "Z" (.int 1)) (z2 : Arv Z h0 a1 z0 .byte 6 [(.int (((own_hi x1) >>> ((0 : Int32) &&& 31)).toInt8.toInt32)), (.int (((own_hi x1) >>> ((8 : Int32) &&& 31)).toInt8.toInt32)), (.int (((own_lo x1) >>> ((0 : Int32) &&& 31)).toInt8.toInt32)), (.int (((own_lo x1) >>> ((8 : Int32) &&& 31)).toInt8.toInt32)), (.int (bH x2)), (.int (bL x2))] iZ) (z3 : Sta Z Z.heap s0 s3 "I" iZ) (z4 : Sta Z Z.heap s0 s4 "I" (.int 8)) (hu1 : own_cp x2) (hc2 : x2 < (65536 : Int32)) (hc3 : (own_hs x2) = (0 : Int32)) :
    CtrN l Z mn28 jdk_52_method_8_code 3 (some .int) [] (⟨2, 0, 0, 30⟩ : Room) #[(.ref a1), (.int 2), (.int 3)] h0 [] (fun v h => v = some (.int x2)) := by
  refine CtrN.intro (L0 := #[vr a1, vi 2, vi 3]) (plainFor_of_name pn5) O0 (own_entry rfl) ?_
  intro p e s m below meth c T0 hy hml hret hlk hnm W0
  refine o_aloadN W0 1 (hb hy d27_0) rfl rfl rfl <| o_iloadN W0 2 (hb hy d27_1) rfl rfl <| o_iloadN W0 3 (hb hy d27_2) rfl rfl <| o_iconst W0 (v := 0) 4 (hb hy d27_3) rfl rfl ?_
  refine o_staticC W0 (w121 hw) (w122 hw) (w60 hw) (w123 hw) (by decide) (rm154 l hw a1 z0 x1 x2 h0 W0.old z1 z2 z3 z4 hu1 hc2 hc3) 0 0 0 (by decide) (by rw [hml]; rfl) (lenOf pd19 rfl) [] rfl rfl 7 (hb hy d27_4) rfl rfl rfl all0 tri ?_
  intro v4 T4 h4 lo4 W4 K4 q4
  obtain rfl := q4.2.2
  show Gl _ _ _ _ _ _ _ _ [(.int x2)]
  exact o_retI W4 hlk hret (hb hy d27_7) (by decide) (by decide) rfl
theorem rm156 (l : Launch) {Z a0} (hw : HW Z a0) (a1 : Addr) (z0 : ClassId) (x1 x2 : Int32) (h0 : Heap) (O0 : Old Z Z.heap.size h0) (z1 : Sta Z Z.heap s0 s2 "Z" (.int 1)) (z2 : Arv Z h0 a1 z0 .byte 6 [(.int (((own_hi x1) >>> ((0 : Int32) &&& 31)).toInt8.toInt32)), (.int (((own_hi x1) >>> ((8 : Int32) &&& 31)).toInt8.toInt32)), (.int (((own_lo x1) >>> ((0 : Int32) &&& 31)).toInt8.toInt32)), (.int (((own_lo x1) >>> ((8 : Int32) &&& 31)).toInt8.toInt32)), (.int (bH x2)), (.int (bL x2))] iZ) (z3 : Sta Z Z.heap s0 s3 "I" iZ) (z4 : Sta Z Z.heap s0 s4 "I" (.int 8)) (hu2 : own_cp x2) (hc3 : x2 < (65536 : Int32)) (hc6 : ¬ ((own_hs x2) = (0 : Int32))) :
    CtrN l Z mn27 jdk_52_method_7_code 6 (some .int) [] (⟨1, 0, 0, 13⟩ : Room) #[(.ref a1), (.int 2), (.int 3), iZ] h0 [] (fun v h => v = some (.int x2)) := by
  refine CtrN.intro (L0 := #[vr a1, vi 2, vi 3, vi 0, un, un]) (plainFor_of_name pn5) O0 (own_entry rfl) ?_
  intro p e s m below meth c T0 hy hml hret hlk hnm W0
  refine o_getS W0 (w107 hw) Via.refl (z1.ext W0.ox) 3 (hb hy d28_0) rfl ?_
  intro T1 W1
  refine o_ifY W1 19 (hb hy d28_3) (XT.i0_ne_t (by decide)) (by decide) rfl <| o_iloadN W1 20 (hb hy d28_19) rfl rfl <| o_ifY W1 28 (hb hy d28_20) (XT.i0_eq_t (by decide)) (by decide) rfl <| o_aloadN W1 29 (hb hy d28_28) rfl rfl rfl <| o_iloadN W1 30 (hb hy d28_29) rfl rfl ?_
  refine o_staticC W1 (w110 hw) (w111 hw) (w60 hw) (w112 hw) (by decide) (rm153 l hw a1 z0 x1 x2 h0 W1.old z1 z2 z3 z4 hu2 hc3) 0 0 0 (by decide) (by rw [hml]; rfl) (lenOf pd17 rfl) [] rfl rfl 33 (hb hy d28_30) rfl rfl rfl all0 tri ?_
  intro v4 T4 h4 lo4 W4 K4 q4
  obtain rfl := q4.2.2
  show Gl _ _ _ _ _ _ _ _ [(.int x2)]
  refine o_istore W4 (L' := #[vr a1, vi 2, vi 3, vi 0, vi x2, un]) 35 (hb hy d28_33) rfl rfl <| o_iload W4 37 (hb hy d28_35) rfl rfl ?_
  refine o_staticC W4 (w124 hw) (w125 hw) (w115 hw) (w126 hw) (by decide) (rm4 l hw x2 h4 W4.old ) 0 0 0 (by decide) (by rw [hml]; rfl) (lenOf pd18 rfl) [] rfl rfl 40 (hb hy d28_37) rfl rfl rfl all0 tri ?_
  intro v5 T5 h5 lo5 W5 K5 q5
  obtain rfl := q5.2.2
  show Gl _ _ _ _ _ _ _ _ [(.int (own_hs x2))]
  refine o_ifN W5 43 (hb hy d28_40) (XT.i0_eq_f hc6) rfl <| o_iinc W5 (v := 3) (L' := #[vr a1, vi 3, vi 3, vi 0, vi x2, un]) 46 (hb hy d28_43) rfl (by decide) rfl rfl <| o_iloadN W5 47 (hb hy d28_46) rfl rfl <| o_iloadN W5 48 (hb hy d28_47) rfl rfl <| o_icmpY W5 83 (hb hy d28_48) (XT.ii_ge_t (by decide)) (by decide) rfl <| o_iload W5 85 (hb hy d28_83) rfl rfl ?_
  exact o_retI W5 hlk hret (hb hy d28_85) (by decide) (by decide) rfl
theorem rm157 (l : Launch) {Z a0} (hw : HW Z a0) (a1 : Addr) (z0 : ClassId) (x1 x2 : Int32) (h0 : Heap) (O0 : Old Z Z.heap.size h0) (z1 : Sta Z Z.heap s0 s2 "Z" (.int 1)) (z2 : Arv Z h0 a1 z0 .byte 6 [(.int (((own_hi x1) >>> ((0 : Int32) &&& 31)).toInt8.toInt32)), (.int (((own_hi x1) >>> ((8 : Int32) &&& 31)).toInt8.toInt32)), (.int (((own_lo x1) >>> ((0 : Int32) &&& 31)).toInt8.toInt32)), (.int (((own_lo x1) >>> ((8 : Int32) &&& 31)).toInt8.toInt32)), (.int (bH x2)), (.int (bL x2))] iZ) (z3 : Sta Z Z.heap s0 s3 "I" iZ) (z4 : Sta Z Z.heap s0 s4 "I" (.int 8)) (hu1 : own_cp x2) (hc2 : x2 < (65536 : Int32)) (hc3 : ¬ ((own_hs x2) = (0 : Int32))) :
    CtrN l Z mn28 jdk_52_method_8_code 3 (some .int) [] (⟨2, 0, 0, 30⟩ : Room) #[(.ref a1), (.int 2), (.int 3)] h0 [] (fun v h => v = some (.int x2)) := by
  refine CtrN.intro (L0 := #[vr a1, vi 2, vi 3]) (plainFor_of_name pn5) O0 (own_entry rfl) ?_
  intro p e s m below meth c T0 hy hml hret hlk hnm W0
  refine o_aloadN W0 1 (hb hy d27_0) rfl rfl rfl <| o_iloadN W0 2 (hb hy d27_1) rfl rfl <| o_iloadN W0 3 (hb hy d27_2) rfl rfl <| o_iconst W0 (v := 0) 4 (hb hy d27_3) rfl rfl ?_
  refine o_staticC W0 (w121 hw) (w122 hw) (w60 hw) (w123 hw) (by decide) (rm156 l hw a1 z0 x1 x2 h0 W0.old z1 z2 z3 z4 hu1 hc2 hc3) 0 0 0 (by decide) (by rw [hml]; rfl) (lenOf pd19 rfl) [] rfl rfl 7 (hb hy d27_4) rfl rfl rfl all0 tri ?_
  intro v4 T4 h4 lo4 W4 K4 q4
  obtain rfl := q4.2.2
  show Gl _ _ _ _ _ _ _ _ [(.int x2)]
  exact o_retI W4 hlk hret (hb hy d27_7) (by decide) (by decide) rfl
theorem rm158 (l : Launch) {Z a0} (hw : HW Z a0) (gCS : Int32) (gF : Value) (a1 a2 : Addr) (z0 : ClassId) (x1 x2 : Int32) (h0 : Heap) (O0 : Old Z Z.heap.size h0) (z1 : Exa Z h0 a1 s1) (SgCS : Sta Z Z.heap s1 s5 "Z" (.int gCS)) (NgCS : ¬ (gCS = (0 : Int32))) (z2 : Fld Z h0 a1 s1 "coder" "B" (.int 1)) (z3 : Fld Z h0 a1 s1 "value" "[B" (.ref a2)) (z4 : Arv Z h0 a2 z0 .byte 6 [(.int (((own_hi x1) >>> ((0 : Int32) &&& 31)).toInt8.toInt32)), (.int (((own_hi x1) >>> ((8 : Int32) &&& 31)).toInt8.toInt32)), (.int (((own_lo x1) >>> ((0 : Int32) &&& 31)).toInt8.toInt32)), (.int (((own_lo x1) >>> ((8 : Int32) &&& 31)).toInt8.toInt32)), (.int (bH x2)), (.int (bL x2))] iZ) (SgF : Sta Z Z.heap s6 s7 s8 gF) (NgF : gF.isRef = true) (z5 : Sta Z Z.heap s0 s2 "Z" (.int 1)) (z6 : Sta Z Z.heap s0 s3 "I" iZ) (z7 : Sta Z Z.heap s0 s4 "I" (.int 8)) (hu9 : own_cp x2) (hc10 : x2 < (65536 : Int32)) (hc13 : x2 < (65536 : Int32)) (hc16 : x2 < (65536 : Int32)) :
    CtrN l Z mn1 jdk_42_method_57_code 3 (some .int) [] (⟨6, 0, 0, 90⟩ : Room) #[(.ref a1), (.int 2)] h0 [] (fun v h => v = some (.int x2)) := by
  refine CtrN.intro (L0 := #[vr a1, vi 2, un]) (plainFor_of_name pn2) O0 (own_entry rfl) ?_
  intro p e s m below meth c T0 hy hml hret hlk hnm W0
  refine o_aloadN W0 1 (hb hy d15_0) rfl rfl rfl ?_
  refine o_virtualC W0 (w73 hw) (w74 hw) (o_nf W0 rfl (w76 hw)) (w76 hw) (w75 hw) (by decide) z1 (w77 hw) (w12 hw) (rm39 l hw gCS a1 h0 W0.old SgCS NgCS z2) 0 0 0 (by decide) (by rw [hml]; rfl) (lenOf pd12 rfl) [] rfl rfl 4 (hb hy d15_1) rfl rfl rfl all0 tri ?_
  intro v1 T1 h1 lo1 W1 K1 q1
  obtain rfl := q1.2.2
  show Gl _ _ _ _ _ _ _ _ [iZ]
  refine o_ifY W1 27 (hb hy d15_4) (XT.i0_eq_t (by decide)) (by decide) rfl <| o_aloadN W1 28 (hb hy d15_27) rfl rfl rfl ?_
  have c2 := (z3.keep K1 nin0)
  refine o_getF W1 (w30 hw) Via.refl c2 31 (hb hy d15_28) rfl ?_
  intro T3 W3
  have c4 := (z4.keep K1 nin0)
  refine o_len W3 c4 32 (hb hy d15_31) rfl <| o_iconst W3 (v := 1) 33 (hb hy d15_32) rfl rfl <| o_ishr W3 (v := 3) 34 (hb hy d15_33) (by decide) rfl <| o_istoreN W3 (L' := #[vr a1, vi 2, vi 3]) 35 (hb hy d15_34) rfl rfl <| o_iloadN W3 36 (hb hy d15_35) rfl rfl <| o_iloadN W3 37 (hb hy d15_36) rfl rfl ?_
  refine o_staticC W3 (w78 hw) (w79 hw) (w12 hw) (w80 hw) (by decide) (rm152 l hw gF h1 W3.old SgF NgF) 0 0 0 (by decide) (by rw [hml]; rfl) (lenOf pd14 rfl) [] rfl rfl 40 (hb hy d15_37) rfl rfl rfl all0 tri ?_
  intro v5 T5 h5 lo5 W5 K5 q5
  obtain rfl := q5.2.2
  show Gl _ _ _ _ _ _ _ _ []
  refine o_aloadN W5 41 (hb hy d15_40) rfl rfl rfl ?_
  have c6 := (c2.keep K5 nin0)
  refine o_getF W5 (w30 hw) Via.refl c6 44 (hb hy d15_41) rfl ?_
  intro T7 W7
  refine o_iloadN W7 45 (hb hy d15_44) rfl rfl <| o_iloadN W7 46 (hb hy d15_45) rfl rfl ?_
  by_cases hq11 : (own_hs x2) = (0 : Int32)
  · have c12 := (c4.keep K5 nin0)
    refine o_staticC W7 (w118 hw) (w119 hw) (w60 hw) (w120 hw) (by decide) (rm155 l hw a2 z0 x1 x2 h5 W7.old z5 c12 z6 z7 hu9 hc13 hq11) 0 0 0 (by decide) (by rw [hml]; rfl) (lenOf pd20 rfl) [] rfl rfl 49 (hb hy d15_46) rfl rfl rfl all0 tri ?_
    intro v14 T14 h14 lo14 W14 K14 q14
    obtain rfl := q14.2.2
    show Gl _ _ _ _ _ _ _ _ [(.int x2)]
    exact o_retI W14 hlk hret (hb hy d15_49) (by decide) (by decide) rfl
  · have c15 := (c4.keep K5 nin0)
    refine o_staticC W7 (w118 hw) (w119 hw) (w60 hw) (w120 hw) (by decide) (rm157 l hw a2 z0 x1 x2 h5 W7.old z5 c15 z6 z7 hu9 hc16 hq11) 0 0 0 (by decide) (by rw [hml]; rfl) (lenOf pd20 rfl) [] rfl rfl 49 (hb hy d15_46) rfl rfl rfl all0 tri ?_
    intro v17 T17 h17 lo17 W17 K17 q17
    obtain rfl := q17.2.2
    show Gl _ _ _ _ _ _ _ _ [(.int x2)]
    exact o_retI W17 hlk hret (hb hy d15_49) (by decide) (by decide) rfl
theorem rm159 (l : Launch) {Z a0} (hw : HW Z a0) (a1 a2 : Addr) (z0 : ClassId) (x1 x2 : Int32) (h0 : Heap) (O0 : Old Z Z.heap.size h0) (z1 : Arv Z h0 a1 z0 .char 4 [(.int (own_hi x1)), (.int (own_lo x1)), (.int (own_hi x2)), (.int (own_lo x2))] iZ) (hu1 : own_cp x1) (hc2 : ¬ (x1 < (65536 : Int32))) :
    CtrN l Z mn16 jdk_52_method_21_code 7 (some .int) [] (⟨0, 0, 0, 0⟩ : Room) #[(.ref a1), iZ, (.ref a2), iZ, (.int 4)] h0 [] (fun v h => v = some iZ) := by
  refine CtrN.intro (L0 := #[vr a1, vi 0, vr a2, vi 0, vi 4, un, un]) (plainFor_of_name pn5) O0 (own_entry rfl) ?_
  intro p e s m below meth c T0 hy hml hret hlk hnm W0
  refine o_iconst W0 (v := 0) 1 (hb hy d13_0) rfl rfl <| o_istore W0 (L' := #[vr a1, vi 0, vr a2, vi 0, vi 4, vi 0, un]) 3 (hb hy d13_1) rfl rfl <| o_iload W0 5 (hb hy d13_3) rfl rfl <| o_iload W0 7 (hb hy d13_5) rfl rfl <| o_icmpN W0 10 (hb hy d13_7) (XT.ii_ge_f (by decide)) rfl <| o_aloadN W0 11 (hb hy d13_10) rfl rfl rfl ?_
  refine o_iloadN W0 12 (hb hy d13_11) rfl rfl <| o_caload W0 z1 (x := (own_hi x1)) (i := 0) (by decide) (by decide) (by decide) rfl 13 (hb hy d13_12) rfl <| o_istore W0 (L' := #[vr a1, vi 0, vr a2, vi 0, vi 4, vi 0, vi (own_hi x1)]) 15 (hb hy d13_13) rfl rfl <| o_iload W0 17 (hb hy d13_15) rfl rfl <| o_sipush W0 (v := 255) 20 (hb hy d13_17) (by decide) rfl <| o_icmpN W0 23 (hb hy d13_20) (XT.ii_le_f (own_hiI (own_spI hu1 hc2)).2.2) rfl ?_
  refine o_iload W0 25 (hb hy d13_23) rfl rfl ?_
  exact o_retI W0 hlk hret (hb hy d13_25) (by decide) (by decide) rfl
theorem rm160 (l : Launch) {Z a0} (hw : HW Z a0)  (h0 : Heap) (O0 : Old Z Z.heap.size h0) :
    CtrN l Z mn22 jdk_52_method_3_code 1 (some .int) [] (⟨0, 0, 0, 0⟩ : Room) #[(.int 4)] h0 [] (fun v h => v = some (.int 8)) := by
  refine CtrN.intro (L0 := #[vi 4]) (plainFor_of_name pn5) O0 (own_entry rfl) ?_
  intro p e s m below meth c T0 hy hml hret hlk hnm W0
  refine o_iloadN W0 1 (hb hy d23_0) rfl rfl <| o_ifY W0 12 (hb hy d23_1) (XT.i0_ge_t (by decide)) (by decide) rfl <| o_iloadN W0 13 (hb hy d23_12) rfl rfl <| o_ldcI W0 (w103 hw) 15 (hb hy d23_13) rfl <| o_icmpY W0 55 (hb hy d23_15) (XT.ii_lt_t (by decide)) (by decide) rfl <| o_iloadN W0 56 (hb hy d23_55) rfl rfl ?_
  refine o_iconst W0 (v := 1) 57 (hb hy d23_56) rfl rfl <| o_ishl W0 (v := 8) 58 (hb hy d23_57) (by decide) rfl ?_
  exact o_retI W0 hlk hret (hb hy d23_58) (by decide) (by decide) rfl
theorem rm161 (l : Launch) {Z a0} (hw : HW Z a0)  (h0 : Heap) (O0 : Old Z Z.heap.size h0) :
    CtrN l Z mn23 jdk_52_method_2_code 1 (some (.array .byte)) [] (⟨1, 1, 8, 12⟩ : Room) #[(.int 4)] h0 [] (fun v h => ∃ r1 : Addr, ∃ r2 : ClassId, h0.size ≤ r1 ∧ Arv Z h r1 r2 .byte 8 [iZ, iZ, iZ, iZ, iZ, iZ, iZ, iZ] iZ ∧ v = some (.ref r1)) := by
  refine CtrN.intro (L0 := #[vi 4]) (plainFor_of_name pn5) O0 (own_entry rfl) ?_
  intro p e s m below meth c T0 hy hml hret hlk hnm W0
  refine o_iloadN W0 1 (hb hy d22_0) rfl rfl ?_
  refine o_staticC W0 (w100 hw) (w101 hw) (w60 hw) (w102 hw) (by decide) (rm160 l hw  h0 W0.old ) 0 0 0 (by decide) (by rw [hml]; rfl) (lenOf pd8 rfl) [] rfl rfl 4 (hb hy d22_1) rfl rfl rfl all0 tri ?_
  intro v1 T1 h1 lo1 W1 K1 q1
  obtain rfl := q1.2.2
  show Gl _ _ _ _ _ _ _ _ [(.int 8)]
  refine o_newP W1 (aty := .byte) (w25 hw) tri (by decide) (cap := 8) (by decide) (by decide) 6 (hb hy d22_4) rfl (cells' := 1) (slots' := 8) rfl rfl (by decide) (by decide) (vs := [iZ, iZ, iZ, iZ, iZ, iZ, iZ, iZ]) (dv := iZ) rfl rfl ?_
  intro b2 T2 h2 k2 W2 E2 ge2 gz2 gb2 V2
  exact o_retA W2 hlk (v := (.ref b2)) hret rfl rfl (hb hy d22_6) (by decide) (by decide) ⟨b2, k2, gb2, V2, rfl⟩
theorem rm162 (l : Launch) {Z a0} (hw : HW Z a0) (a1 : Addr) (x1 : Int32) (z0 : ClassId) (h0 : Heap) (O0 : Old Z Z.heap.size h0) (z1 : Sta Z Z.heap s0 s2 "Z" (.int 1)) (z2 : Sta Z Z.heap s0 s3 "I" iZ) (z3 : Arv Z h0 a1 z0 .byte 8 [iZ, iZ, iZ, iZ, iZ, iZ, iZ, iZ] iZ) (z4 : Z.heap.size ≤ a1) (z5 : Sta Z Z.heap s0 s4 "I" (.int 8)) :
    CtrN l Z mn24 jdk_52_method_4_code 3 none [] (⟨0, 0, 0, 0⟩ : Room) #[(.ref a1), iZ, (.int (own_hi x1))] h0 [a1] (fun v h => Arv Z h a1 z0 .byte 8 [(.int (((own_hi x1) >>> ((0 : Int32) &&& 31)).toInt8.toInt32)), (.int (((own_hi x1) >>> ((8 : Int32) &&& 31)).toInt8.toInt32)), iZ, iZ, iZ, iZ, iZ, iZ] iZ ∧ v = none) := by
  refine CtrN.intro (L0 := #[vr a1, vi 0, vi (own_hi x1)]) (plainFor_of_name pn5) O0 (own_entry rfl) ?_
  intro p e s m below meth c T0 hy hml hret hlk hnm W0
  refine o_getS W0 (w107 hw) Via.refl (z1.ext W0.ox) 3 (hb hy d24_0) rfl ?_
  intro T1 W1
  refine o_ifY W1 28 (hb hy d24_3) (XT.i0_ne_t (by decide)) (by decide) rfl <| o_iloadN W1 29 (hb hy d24_28) rfl rfl <| o_iconst W1 (v := 1) 30 (hb hy d24_29) rfl rfl <| o_ishl W1 (v := 0) 31 (hb hy d24_30) (by decide) rfl <| o_istoreN W1 (L' := #[vr a1, vi 0, vi (own_hi x1)]) 32 (hb hy d24_31) rfl rfl <| o_aloadN W1 33 (hb hy d24_32) rfl rfl rfl ?_
  refine o_iloadN W1 34 (hb hy d24_33) rfl rfl <| o_iinc W1 (v := 1) (L' := #[vr a1, vi 1, vi (own_hi x1)]) 37 (hb hy d24_34) rfl (by decide) rfl rfl <| o_iloadN W1 38 (hb hy d24_37) rfl rfl ?_
  refine o_getS W1 (w108 hw) Via.refl (z2.ext W1.ox) 41 (hb hy d24_38) rfl ?_
  intro T2 W2
  refine o_ishr W2 (v := ((own_hi x1) >>> ((0 : Int32) &&& 31))) 42 (hb hy d24_41) rfl rfl <| o_i2b W2 (v := (((own_hi x1) >>> ((0 : Int32) &&& 31)).toInt8.toInt32)) 43 (hb hy d24_42) rfl rfl ?_
  refine o_stB W2 z3 (i := 0) (x' := (((own_hi x1) >>> ((0 : Int32) &&& 31)).toInt8.toInt32)) (by decide) (by decide) (by decide) (Nat.lt_of_sub_eq_succ rfl) (own_b8 _) (vs' := [(.int (((own_hi x1) >>> ((0 : Int32) &&& 31)).toInt8.toInt32)), iZ, iZ, iZ, iZ, iZ, iZ, iZ]) rfl z4 m0 tri 44 (hb hy d24_43) rfl ?_
  intro T3 h3 lo3 W3 R3 V3
  refine o_aloadN W3 45 (hb hy d24_44) rfl rfl rfl <| o_iloadN W3 46 (hb hy d24_45) rfl rfl <| o_iloadN W3 47 (hb hy d24_46) rfl rfl ?_
  refine o_getS W3 (w109 hw) Via.refl (z5.ext W3.ox) 50 (hb hy d24_47) rfl ?_
  intro T4 W4
  refine o_ishr W4 (v := ((own_hi x1) >>> ((8 : Int32) &&& 31))) 51 (hb hy d24_50) rfl rfl <| o_i2b W4 (v := (((own_hi x1) >>> ((8 : Int32) &&& 31)).toInt8.toInt32)) 52 (hb hy d24_51) rfl rfl ?_
  refine o_stB W4 V3 (i := 1) (x' := (((own_hi x1) >>> ((8 : Int32) &&& 31)).toInt8.toInt32)) (by decide) (by decide) (by decide) (Nat.lt_of_sub_eq_succ rfl) (own_b8 _) (vs' := [(.int (((own_hi x1) >>> ((0 : Int32) &&& 31)).toInt8.toInt32)), (.int (((own_hi x1) >>> ((8 : Int32) &&& 31)).toInt8.toInt32)), iZ, iZ, iZ, iZ, iZ, iZ]) rfl z4 m0 tri 53 (hb hy d24_52) rfl ?_
  intro T5 h5 lo5 W5 R5 V5
  exact o_ret0 W5 hlk hret (hb hy d24_53) (by decide) (by decide) ⟨V5, rfl⟩
theorem rm163 (l : Launch) {Z a0} (hw : HW Z a0) (a1 : Addr) (x1 : Int32) (z0 : ClassId) (h0 : Heap) (O0 : Old Z Z.heap.size h0) (z1 : Sta Z Z.heap s0 s2 "Z" (.int 1)) (z2 : Sta Z Z.heap s0 s3 "I" iZ) (z3 : Arv Z h0 a1 z0 .byte 8 [(.int (((own_hi x1) >>> ((0 : Int32) &&& 31)).toInt8.toInt32)), (.int (((own_hi x1) >>> ((8 : Int32) &&& 31)).toInt8.toInt32)), iZ, iZ, iZ, iZ, iZ, iZ] iZ) (z4 : Z.heap.size ≤ a1) (z5 : Sta Z Z.heap s0 s4 "I" (.int 8)) :
    CtrN l Z mn24 jdk_52_method_4_code 3 none [] (⟨0, 0, 0, 0⟩ : Room) #[(.ref a1), (.int 1), (.int (own_lo x1))] h0 [a1] (fun v h => Arv Z h a1 z0 .byte 8 [(.int (((own_hi x1) >>> ((0 : Int32) &&& 31)).toInt8.toInt32)), (.int (((own_hi x1) >>> ((8 : Int32) &&& 31)).toInt8.toInt32)), (.int (((own_lo x1) >>> ((0 : Int32) &&& 31)).toInt8.toInt32)), (.int (((own_lo x1) >>> ((8 : Int32) &&& 31)).toInt8.toInt32)), iZ, iZ, iZ, iZ] iZ ∧ v = none) := by
  refine CtrN.intro (L0 := #[vr a1, vi 1, vi (own_lo x1)]) (plainFor_of_name pn5) O0 (own_entry rfl) ?_
  intro p e s m below meth c T0 hy hml hret hlk hnm W0
  refine o_getS W0 (w107 hw) Via.refl (z1.ext W0.ox) 3 (hb hy d24_0) rfl ?_
  intro T1 W1
  refine o_ifY W1 28 (hb hy d24_3) (XT.i0_ne_t (by decide)) (by decide) rfl <| o_iloadN W1 29 (hb hy d24_28) rfl rfl <| o_iconst W1 (v := 1) 30 (hb hy d24_29) rfl rfl <| o_ishl W1 (v := 2) 31 (hb hy d24_30) (by decide) rfl <| o_istoreN W1 (L' := #[vr a1, vi 2, vi (own_lo x1)]) 32 (hb hy d24_31) rfl rfl <| o_aloadN W1 33 (hb hy d24_32) rfl rfl rfl ?_
  refine o_iloadN W1 34 (hb hy d24_33) rfl rfl <| o_iinc W1 (v := 3) (L' := #[vr a1, vi 3, vi (own_lo x1)]) 37 (hb hy d24_34) rfl (by decide) rfl rfl <| o_iloadN W1 38 (hb hy d24_37) rfl rfl ?_
  refine o_getS W1 (w108 hw) Via.refl (z2.ext W1.ox) 41 (hb hy d24_38) rfl ?_
  intro T2 W2
  refine o_ishr W2 (v := ((own_lo x1) >>> ((0 : Int32) &&& 31))) 42 (hb hy d24_41) rfl rfl <| o_i2b W2 (v := (((own_lo x1) >>> ((0 : Int32) &&& 31)).toInt8.toInt32)) 43 (hb hy d24_42) rfl rfl ?_
  refine o_stB W2 z3 (i := 2) (x' := (((own_lo x1) >>> ((0 : Int32) &&& 31)).toInt8.toInt32)) (by decide) (by decide) (by decide) (Nat.lt_of_sub_eq_succ rfl) (own_b8 _) (vs' := [(.int (((own_hi x1) >>> ((0 : Int32) &&& 31)).toInt8.toInt32)), (.int (((own_hi x1) >>> ((8 : Int32) &&& 31)).toInt8.toInt32)), (.int (((own_lo x1) >>> ((0 : Int32) &&& 31)).toInt8.toInt32)), iZ, iZ, iZ, iZ, iZ]) rfl z4 m0 tri 44 (hb hy d24_43) rfl ?_
  intro T3 h3 lo3 W3 R3 V3
  refine o_aloadN W3 45 (hb hy d24_44) rfl rfl rfl <| o_iloadN W3 46 (hb hy d24_45) rfl rfl <| o_iloadN W3 47 (hb hy d24_46) rfl rfl ?_
  refine o_getS W3 (w109 hw) Via.refl (z5.ext W3.ox) 50 (hb hy d24_47) rfl ?_
  intro T4 W4
  refine o_ishr W4 (v := ((own_lo x1) >>> ((8 : Int32) &&& 31))) 51 (hb hy d24_50) rfl rfl <| o_i2b W4 (v := (((own_lo x1) >>> ((8 : Int32) &&& 31)).toInt8.toInt32)) 52 (hb hy d24_51) rfl rfl ?_
  refine o_stB W4 V3 (i := 3) (x' := (((own_lo x1) >>> ((8 : Int32) &&& 31)).toInt8.toInt32)) (by decide) (by decide) (by decide) (Nat.lt_of_sub_eq_succ rfl) (own_b8 _) (vs' := [(.int (((own_hi x1) >>> ((0 : Int32) &&& 31)).toInt8.toInt32)), (.int (((own_hi x1) >>> ((8 : Int32) &&& 31)).toInt8.toInt32)), (.int (((own_lo x1) >>> ((0 : Int32) &&& 31)).toInt8.toInt32)), (.int (((own_lo x1) >>> ((8 : Int32) &&& 31)).toInt8.toInt32)), iZ, iZ, iZ, iZ]) rfl z4 m0 tri 53 (hb hy d24_52) rfl ?_
  intro T5 h5 lo5 W5 R5 V5
  exact o_ret0 W5 hlk hret (hb hy d24_53) (by decide) (by decide) ⟨V5, rfl⟩
theorem rm164 (l : Launch) {Z a0} (hw : HW Z a0) (a1 : Addr) (x1 : Int32) (z0 : ClassId) (x2 : Int32) (h0 : Heap) (O0 : Old Z Z.heap.size h0) (z1 : Sta Z Z.heap s0 s2 "Z" (.int 1)) (z2 : Sta Z Z.heap s0 s3 "I" iZ) (z3 : Arv Z h0 a1 z0 .byte 8 [(.int (((own_hi x2) >>> ((0 : Int32) &&& 31)).toInt8.toInt32)), (.int (((own_hi x2) >>> ((8 : Int32) &&& 31)).toInt8.toInt32)), (.int (((own_lo x2) >>> ((0 : Int32) &&& 31)).toInt8.toInt32)), (.int (((own_lo x2) >>> ((8 : Int32) &&& 31)).toInt8.toInt32)), iZ, iZ, iZ, iZ] iZ) (z4 : Z.heap.size ≤ a1) (z5 : Sta Z Z.heap s0 s4 "I" (.int 8)) :
    CtrN l Z mn24 jdk_52_method_4_code 3 none [] (⟨0, 0, 0, 0⟩ : Room) #[(.ref a1), (.int 2), (.int (own_hi x1))] h0 [a1] (fun v h => Arv Z h a1 z0 .byte 8 [(.int (((own_hi x2) >>> ((0 : Int32) &&& 31)).toInt8.toInt32)), (.int (((own_hi x2) >>> ((8 : Int32) &&& 31)).toInt8.toInt32)), (.int (((own_lo x2) >>> ((0 : Int32) &&& 31)).toInt8.toInt32)), (.int (((own_lo x2) >>> ((8 : Int32) &&& 31)).toInt8.toInt32)), (.int (((own_hi x1) >>> ((0 : Int32) &&& 31)).toInt8.toInt32)), (.int (((own_hi x1) >>> ((8 : Int32) &&& 31)).toInt8.toInt32)), iZ, iZ] iZ ∧ v = none) := by
  refine CtrN.intro (L0 := #[vr a1, vi 2, vi (own_hi x1)]) (plainFor_of_name pn5) O0 (own_entry rfl) ?_
  intro p e s m below meth c T0 hy hml hret hlk hnm W0
  refine o_getS W0 (w107 hw) Via.refl (z1.ext W0.ox) 3 (hb hy d24_0) rfl ?_
  intro T1 W1
  refine o_ifY W1 28 (hb hy d24_3) (XT.i0_ne_t (by decide)) (by decide) rfl <| o_iloadN W1 29 (hb hy d24_28) rfl rfl <| o_iconst W1 (v := 1) 30 (hb hy d24_29) rfl rfl <| o_ishl W1 (v := 4) 31 (hb hy d24_30) (by decide) rfl <| o_istoreN W1 (L' := #[vr a1, vi 4, vi (own_hi x1)]) 32 (hb hy d24_31) rfl rfl <| o_aloadN W1 33 (hb hy d24_32) rfl rfl rfl ?_
  refine o_iloadN W1 34 (hb hy d24_33) rfl rfl <| o_iinc W1 (v := 5) (L' := #[vr a1, vi 5, vi (own_hi x1)]) 37 (hb hy d24_34) rfl (by decide) rfl rfl <| o_iloadN W1 38 (hb hy d24_37) rfl rfl ?_
  refine o_getS W1 (w108 hw) Via.refl (z2.ext W1.ox) 41 (hb hy d24_38) rfl ?_
  intro T2 W2
  refine o_ishr W2 (v := ((own_hi x1) >>> ((0 : Int32) &&& 31))) 42 (hb hy d24_41) rfl rfl <| o_i2b W2 (v := (((own_hi x1) >>> ((0 : Int32) &&& 31)).toInt8.toInt32)) 43 (hb hy d24_42) rfl rfl ?_
  refine o_stB W2 z3 (i := 4) (x' := (((own_hi x1) >>> ((0 : Int32) &&& 31)).toInt8.toInt32)) (by decide) (by decide) (by decide) (Nat.lt_of_sub_eq_succ rfl) (own_b8 _) (vs' := [(.int (((own_hi x2) >>> ((0 : Int32) &&& 31)).toInt8.toInt32)), (.int (((own_hi x2) >>> ((8 : Int32) &&& 31)).toInt8.toInt32)), (.int (((own_lo x2) >>> ((0 : Int32) &&& 31)).toInt8.toInt32)), (.int (((own_lo x2) >>> ((8 : Int32) &&& 31)).toInt8.toInt32)), (.int (((own_hi x1) >>> ((0 : Int32) &&& 31)).toInt8.toInt32)), iZ, iZ, iZ]) rfl z4 m0 tri 44 (hb hy d24_43) rfl ?_
  intro T3 h3 lo3 W3 R3 V3
  refine o_aloadN W3 45 (hb hy d24_44) rfl rfl rfl <| o_iloadN W3 46 (hb hy d24_45) rfl rfl <| o_iloadN W3 47 (hb hy d24_46) rfl rfl ?_
  refine o_getS W3 (w109 hw) Via.refl (z5.ext W3.ox) 50 (hb hy d24_47) rfl ?_
  intro T4 W4
  refine o_ishr W4 (v := ((own_hi x1) >>> ((8 : Int32) &&& 31))) 51 (hb hy d24_50) rfl rfl <| o_i2b W4 (v := (((own_hi x1) >>> ((8 : Int32) &&& 31)).toInt8.toInt32)) 52 (hb hy d24_51) rfl rfl ?_
  refine o_stB W4 V3 (i := 5) (x' := (((own_hi x1) >>> ((8 : Int32) &&& 31)).toInt8.toInt32)) (by decide) (by decide) (by decide) (Nat.lt_of_sub_eq_succ rfl) (own_b8 _) (vs' := [(.int (((own_hi x2) >>> ((0 : Int32) &&& 31)).toInt8.toInt32)), (.int (((own_hi x2) >>> ((8 : Int32) &&& 31)).toInt8.toInt32)), (.int (((own_lo x2) >>> ((0 : Int32) &&& 31)).toInt8.toInt32)), (.int (((own_lo x2) >>> ((8 : Int32) &&& 31)).toInt8.toInt32)), (.int (((own_hi x1) >>> ((0 : Int32) &&& 31)).toInt8.toInt32)), (.int (((own_hi x1) >>> ((8 : Int32) &&& 31)).toInt8.toInt32)), iZ, iZ]) rfl z4 m0 tri 53 (hb hy d24_52) rfl ?_
  intro T5 h5 lo5 W5 R5 V5
  exact o_ret0 W5 hlk hret (hb hy d24_53) (by decide) (by decide) ⟨V5, rfl⟩
theorem rm165 (l : Launch) {Z a0} (hw : HW Z a0) (a1 : Addr) (x1 : Int32) (z0 : ClassId) (x2 : Int32) (h0 : Heap) (O0 : Old Z Z.heap.size h0) (z1 : Sta Z Z.heap s0 s2 "Z" (.int 1)) (z2 : Sta Z Z.heap s0 s3 "I" iZ) (z3 : Arv Z h0 a1 z0 .byte 8 [(.int (((own_hi x2) >>> ((0 : Int32) &&& 31)).toInt8.toInt32)), (.int (((own_hi x2) >>> ((8 : Int32) &&& 31)).toInt8.toInt32)), (.int (((own_lo x2) >>> ((0 : Int32) &&& 31)).toInt8.toInt32)), (.int (((own_lo x2) >>> ((8 : Int32) &&& 31)).toInt8.toInt32)), (.int (((own_hi x1) >>> ((0 : Int32) &&& 31)).toInt8.toInt32)), (.int (((own_hi x1) >>> ((8 : Int32) &&& 31)).toInt8.toInt32)), iZ, iZ] iZ) (z4 : Z.heap.size ≤ a1) (z5 : Sta Z Z.heap s0 s4 "I" (.int 8)) :
    CtrN l Z mn24 jdk_52_method_4_code 3 none [] (⟨0, 0, 0, 0⟩ : Room) #[(.ref a1), (.int 3), (.int (own_lo x1))] h0 [a1] (fun v h => Arv Z h a1 z0 .byte 8 [(.int (((own_hi x2) >>> ((0 : Int32) &&& 31)).toInt8.toInt32)), (.int (((own_hi x2) >>> ((8 : Int32) &&& 31)).toInt8.toInt32)), (.int (((own_lo x2) >>> ((0 : Int32) &&& 31)).toInt8.toInt32)), (.int (((own_lo x2) >>> ((8 : Int32) &&& 31)).toInt8.toInt32)), (.int (((own_hi x1) >>> ((0 : Int32) &&& 31)).toInt8.toInt32)), (.int (((own_hi x1) >>> ((8 : Int32) &&& 31)).toInt8.toInt32)), (.int (((own_lo x1) >>> ((0 : Int32) &&& 31)).toInt8.toInt32)), (.int (((own_lo x1) >>> ((8 : Int32) &&& 31)).toInt8.toInt32))] iZ ∧ v = none) := by
  refine CtrN.intro (L0 := #[vr a1, vi 3, vi (own_lo x1)]) (plainFor_of_name pn5) O0 (own_entry rfl) ?_
  intro p e s m below meth c T0 hy hml hret hlk hnm W0
  refine o_getS W0 (w107 hw) Via.refl (z1.ext W0.ox) 3 (hb hy d24_0) rfl ?_
  intro T1 W1
  refine o_ifY W1 28 (hb hy d24_3) (XT.i0_ne_t (by decide)) (by decide) rfl <| o_iloadN W1 29 (hb hy d24_28) rfl rfl <| o_iconst W1 (v := 1) 30 (hb hy d24_29) rfl rfl <| o_ishl W1 (v := 6) 31 (hb hy d24_30) (by decide) rfl <| o_istoreN W1 (L' := #[vr a1, vi 6, vi (own_lo x1)]) 32 (hb hy d24_31) rfl rfl <| o_aloadN W1 33 (hb hy d24_32) rfl rfl rfl ?_
  refine o_iloadN W1 34 (hb hy d24_33) rfl rfl <| o_iinc W1 (v := 7) (L' := #[vr a1, vi 7, vi (own_lo x1)]) 37 (hb hy d24_34) rfl (by decide) rfl rfl <| o_iloadN W1 38 (hb hy d24_37) rfl rfl ?_
  refine o_getS W1 (w108 hw) Via.refl (z2.ext W1.ox) 41 (hb hy d24_38) rfl ?_
  intro T2 W2
  refine o_ishr W2 (v := ((own_lo x1) >>> ((0 : Int32) &&& 31))) 42 (hb hy d24_41) rfl rfl <| o_i2b W2 (v := (((own_lo x1) >>> ((0 : Int32) &&& 31)).toInt8.toInt32)) 43 (hb hy d24_42) rfl rfl ?_
  refine o_stB W2 z3 (i := 6) (x' := (((own_lo x1) >>> ((0 : Int32) &&& 31)).toInt8.toInt32)) (by decide) (by decide) (by decide) (Nat.lt_of_sub_eq_succ rfl) (own_b8 _) (vs' := [(.int (((own_hi x2) >>> ((0 : Int32) &&& 31)).toInt8.toInt32)), (.int (((own_hi x2) >>> ((8 : Int32) &&& 31)).toInt8.toInt32)), (.int (((own_lo x2) >>> ((0 : Int32) &&& 31)).toInt8.toInt32)), (.int (((own_lo x2) >>> ((8 : Int32) &&& 31)).toInt8.toInt32)), (.int (((own_hi x1) >>> ((0 : Int32) &&& 31)).toInt8.toInt32)), (.int (((own_hi x1) >>> ((8 : Int32) &&& 31)).toInt8.toInt32)), (.int (((own_lo x1) >>> ((0 : Int32) &&& 31)).toInt8.toInt32)), iZ]) rfl z4 m0 tri 44 (hb hy d24_43) rfl ?_
  intro T3 h3 lo3 W3 R3 V3
  refine o_aloadN W3 45 (hb hy d24_44) rfl rfl rfl <| o_iloadN W3 46 (hb hy d24_45) rfl rfl <| o_iloadN W3 47 (hb hy d24_46) rfl rfl ?_
  refine o_getS W3 (w109 hw) Via.refl (z5.ext W3.ox) 50 (hb hy d24_47) rfl ?_
  intro T4 W4
  refine o_ishr W4 (v := ((own_lo x1) >>> ((8 : Int32) &&& 31))) 51 (hb hy d24_50) rfl rfl <| o_i2b W4 (v := (((own_lo x1) >>> ((8 : Int32) &&& 31)).toInt8.toInt32)) 52 (hb hy d24_51) rfl rfl ?_
  refine o_stB W4 V3 (i := 7) (x' := (((own_lo x1) >>> ((8 : Int32) &&& 31)).toInt8.toInt32)) (by decide) (by decide) (by decide) (Nat.lt_of_sub_eq_succ rfl) (own_b8 _) (vs' := [(.int (((own_hi x2) >>> ((0 : Int32) &&& 31)).toInt8.toInt32)), (.int (((own_hi x2) >>> ((8 : Int32) &&& 31)).toInt8.toInt32)), (.int (((own_lo x2) >>> ((0 : Int32) &&& 31)).toInt8.toInt32)), (.int (((own_lo x2) >>> ((8 : Int32) &&& 31)).toInt8.toInt32)), (.int (((own_hi x1) >>> ((0 : Int32) &&& 31)).toInt8.toInt32)), (.int (((own_hi x1) >>> ((8 : Int32) &&& 31)).toInt8.toInt32)), (.int (((own_lo x1) >>> ((0 : Int32) &&& 31)).toInt8.toInt32)), (.int (((own_lo x1) >>> ((8 : Int32) &&& 31)).toInt8.toInt32))]) rfl z4 m0 tri 53 (hb hy d24_52) rfl ?_
  intro T5 h5 lo5 W5 R5 V5
  exact o_ret0 W5 hlk hret (hb hy d24_53) (by decide) (by decide) ⟨V5, rfl⟩
theorem rm166 (l : Launch) {Z a0} (hw : HW Z a0) (a1 : Addr) (z0 : ClassId) (x1 x2 : Int32) (h0 : Heap) (O0 : Old Z Z.heap.size h0) (z1 : Arv Z h0 a1 z0 .char 4 [(.int (own_hi x1)), (.int (own_lo x1)), (.int (own_hi x2)), (.int (own_lo x2))] iZ) (z2 : Sta Z Z.heap s0 s2 "Z" (.int 1)) (z3 : Sta Z Z.heap s0 s3 "I" iZ) (z4 : Sta Z Z.heap s0 s4 "I" (.int 8)) :
    CtrN l Z mn25 jdk_52_method_14_code 5 (some (.array .byte)) [] (⟨2, 1, 8, 24⟩ : Room) #[(.ref a1), iZ, (.int 4)] h0 [] (fun v h => ∃ r1 : Addr, ∃ r2 : ClassId, h0.size ≤ r1 ∧ Arv Z h r1 r2 .byte 8 [(.int (((own_hi x1) >>> ((0 : Int32) &&& 31)).toInt8.toInt32)), (.int (((own_hi x1) >>> ((8 : Int32) &&& 31)).toInt8.toInt32)), (.int (((own_lo x1) >>> ((0 : Int32) &&& 31)).toInt8.toInt32)), (.int (((own_lo x1) >>> ((8 : Int32) &&& 31)).toInt8.toInt32)), (.int (((own_hi x2) >>> ((0 : Int32) &&& 31)).toInt8.toInt32)), (.int (((own_hi x2) >>> ((8 : Int32) &&& 31)).toInt8.toInt32)), (.int (((own_lo x2) >>> ((0 : Int32) &&& 31)).toInt8.toInt32)), (.int (((own_lo x2) >>> ((8 : Int32) &&& 31)).toInt8.toInt32))] iZ ∧ v = some (.ref r1)) := by
  refine CtrN.intro (L0 := #[vr a1, vi 0, vi 4, un, un]) (plainFor_of_name pn5) O0 (own_entry rfl) ?_
  intro p e s m below meth c T0 hy hml hret hlk hnm W0
  refine o_iloadN W0 1 (hb hy d21_0) rfl rfl ?_
  refine o_staticC W0 (w97 hw) (w98 hw) (w60 hw) (w99 hw) (by decide) (rm161 l hw  h0 W0.old ) 0 1 8 (by decide) (by rw [hml]; rfl) (lenOf pd15 rfl) [] rfl rfl 4 (hb hy d21_1) rfl rfl rfl all0 tri ?_
  intro v1 T1 h1 lo1 W1 K1 q1
  obtain ⟨r1_1, r2_1, P1_0, P1_1, rfl⟩ := q1.2.2
  show Gl _ _ _ _ _ _ _ _ [(.ref r1_1)]
  refine o_astoreN W1 (L' := #[vr a1, vi 0, vi 4, vr r1_1, un]) 5 (hb hy d21_4) rfl rfl rfl <| o_iconst W1 (v := 0) 6 (hb hy d21_5) rfl rfl <| o_istore W1 (L' := #[vr a1, vi 0, vi 4, vr r1_1, vi 0]) 8 (hb hy d21_6) rfl rfl <| o_iload W1 10 (hb hy d21_8) rfl rfl <| o_iloadN W1 11 (hb hy d21_10) rfl rfl <| o_icmpN W1 14 (hb hy d21_11) (XT.ii_ge_f (by decide)) rfl ?_
  refine o_aloadN W1 15 (hb hy d21_14) rfl rfl rfl <| o_iload W1 17 (hb hy d21_15) rfl rfl <| o_aloadN W1 18 (hb hy d21_17) rfl rfl rfl <| o_iloadN W1 19 (hb hy d21_18) rfl rfl ?_
  have c2 := (z1.keep K1 nin0)
  refine o_caload W1 c2 (x := (own_hi x1)) (i := 0) (by decide) (by decide) (by decide) rfl 20 (hb hy d21_19) rfl ?_
  refine o_staticC W1 (w104 hw) (w105 hw) (w60 hw) (w106 hw) (by decide) (rm162 l hw r1_1 x1 r2_1 h1 W1.old z2 z3 P1_1 (Nat.le_trans W0.zs P1_0) z4) 0 1 8 (by decide) (by rw [hml]; rfl) (lenOf pd16 rfl) [] rfl rfl 23 (hb hy d21_20) rfl rfl rfl (allS ⟨(Nat.le_trans W0.zs P1_0), (Or.inr (Nat.le_trans W0.keep.1 P1_0))⟩ all0) tri ?_
  intro v3 T3 h3 lo3 W3 K3 q3
  obtain ⟨P3_0, rfl⟩ := q3.2.2
  show Gl _ _ _ _ _ _ _ _ []
  refine o_iinc W3 (v := 1) (L' := #[vr a1, vi 1, vi 4, vr r1_1, vi 0]) 26 (hb hy d21_23) rfl (by decide) rfl rfl <| o_iinc W3 (v := 1) (L' := #[vr a1, vi 1, vi 4, vr r1_1, vi 1]) 29 (hb hy d21_26) rfl (by decide) rfl rfl <| o_goto W3 8 (hb hy d21_29) (by decide) rfl <| o_iload W3 10 (hb hy d21_8) rfl rfl <| o_iloadN W3 11 (hb hy d21_10) rfl rfl <| o_icmpN W3 14 (hb hy d21_11) (XT.ii_ge_f (by decide)) rfl ?_
  refine o_aloadN W3 15 (hb hy d21_14) rfl rfl rfl <| o_iload W3 17 (hb hy d21_15) rfl rfl <| o_aloadN W3 18 (hb hy d21_17) rfl rfl rfl <| o_iloadN W3 19 (hb hy d21_18) rfl rfl ?_
  have c4 := (c2.keep K3 (ninS (own_ne z1.lt P1_0) nin0))
  refine o_caload W3 c4 (x := (own_lo x1)) (i := 1) (by decide) (by decide) (by decide) rfl 20 (hb hy d21_19) rfl ?_
  refine o_staticC W3 (w104 hw) (w105 hw) (w60 hw) (w106 hw) (by decide) (rm163 l hw r1_1 x1 r2_1 h3 W3.old z2 z3 P3_0 (Nat.le_trans W0.zs P1_0) z4) 0 1 8 (by decide) (by rw [hml]; rfl) (lenOf pd16 rfl) [] rfl rfl 23 (hb hy d21_20) rfl rfl rfl (allS ⟨(Nat.le_trans W0.zs P1_0), (Or.inr (Nat.le_trans W0.keep.1 P1_0))⟩ all0) tri ?_
  intro v5 T5 h5 lo5 W5 K5 q5
  obtain ⟨P5_0, rfl⟩ := q5.2.2
  show Gl _ _ _ _ _ _ _ _ []
  refine o_iinc W5 (v := 2) (L' := #[vr a1, vi 2, vi 4, vr r1_1, vi 1]) 26 (hb hy d21_23) rfl (by decide) rfl rfl <| o_iinc W5 (v := 2) (L' := #[vr a1, vi 2, vi 4, vr r1_1, vi 2]) 29 (hb hy d21_26) rfl (by decide) rfl rfl <| o_goto W5 8 (hb hy d21_29) (by decide) rfl <| o_iload W5 10 (hb hy d21_8) rfl rfl <| o_iloadN W5 11 (hb hy d21_10) rfl rfl <| o_icmpN W5 14 (hb hy d21_11) (XT.ii_ge_f (by decide)) rfl ?_
  refine o_aloadN W5 15 (hb hy d21_14) rfl rfl rfl <| o_iload W5 17 (hb hy d21_15) rfl rfl <| o_aloadN W5 18 (hb hy d21_17) rfl rfl rfl <| o_iloadN W5 19 (hb hy d21_18) rfl rfl ?_
  have c6 := (c4.keep K5 (ninS (own_ne z1.lt P1_0) nin0))
  refine o_caload W5 c6 (x := (own_hi x2)) (i := 2) (by decide) (by decide) (by decide) rfl 20 (hb hy d21_19) rfl ?_
  refine o_staticC W5 (w104 hw) (w105 hw) (w60 hw) (w106 hw) (by decide) (rm164 l hw r1_1 x2 r2_1 x1 h5 W5.old z2 z3 P5_0 (Nat.le_trans W0.zs P1_0) z4) 0 1 8 (by decide) (by rw [hml]; rfl) (lenOf pd16 rfl) [] rfl rfl 23 (hb hy d21_20) rfl rfl rfl (allS ⟨(Nat.le_trans W0.zs P1_0), (Or.inr (Nat.le_trans W0.keep.1 P1_0))⟩ all0) tri ?_
  intro v7 T7 h7 lo7 W7 K7 q7
  obtain ⟨P7_0, rfl⟩ := q7.2.2
  show Gl _ _ _ _ _ _ _ _ []
  refine o_iinc W7 (v := 3) (L' := #[vr a1, vi 3, vi 4, vr r1_1, vi 2]) 26 (hb hy d21_23) rfl (by decide) rfl rfl <| o_iinc W7 (v := 3) (L' := #[vr a1, vi 3, vi 4, vr r1_1, vi 3]) 29 (hb hy d21_26) rfl (by decide) rfl rfl <| o_goto W7 8 (hb hy d21_29) (by decide) rfl <| o_iload W7 10 (hb hy d21_8) rfl rfl <| o_iloadN W7 11 (hb hy d21_10) rfl rfl <| o_icmpN W7 14 (hb hy d21_11) (XT.ii_ge_f (by decide)) rfl ?_
  refine o_aloadN W7 15 (hb hy d21_14) rfl rfl rfl <| o_iload W7 17 (hb hy d21_15) rfl rfl <| o_aloadN W7 18 (hb hy d21_17) rfl rfl rfl <| o_iloadN W7 19 (hb hy d21_18) rfl rfl ?_
  have c8 := (c6.keep K7 (ninS (own_ne z1.lt P1_0) nin0))
  refine o_caload W7 c8 (x := (own_lo x2)) (i := 3) (by decide) (by decide) (by decide) rfl 20 (hb hy d21_19) rfl ?_
  refine o_staticC W7 (w104 hw) (w105 hw) (w60 hw) (w106 hw) (by decide) (rm165 l hw r1_1 x2 r2_1 x1 h7 W7.old z2 z3 P7_0 (Nat.le_trans W0.zs P1_0) z4) 0 1 8 (by decide) (by rw [hml]; rfl) (lenOf pd16 rfl) [] rfl rfl 23 (hb hy d21_20) rfl rfl rfl (allS ⟨(Nat.le_trans W0.zs P1_0), (Or.inr (Nat.le_trans W0.keep.1 P1_0))⟩ all0) tri ?_
  intro v9 T9 h9 lo9 W9 K9 q9
  obtain ⟨P9_0, rfl⟩ := q9.2.2
  show Gl _ _ _ _ _ _ _ _ []
  refine o_iinc W9 (v := 4) (L' := #[vr a1, vi 4, vi 4, vr r1_1, vi 3]) 26 (hb hy d21_23) rfl (by decide) rfl rfl <| o_iinc W9 (v := 4) (L' := #[vr a1, vi 4, vi 4, vr r1_1, vi 4]) 29 (hb hy d21_26) rfl (by decide) rfl rfl <| o_goto W9 8 (hb hy d21_29) (by decide) rfl <| o_iload W9 10 (hb hy d21_8) rfl rfl <| o_iloadN W9 11 (hb hy d21_10) rfl rfl <| o_icmpY W9 32 (hb hy d21_11) (XT.ii_ge_t (by decide)) (by decide) rfl ?_
  refine o_aloadN W9 33 (hb hy d21_32) rfl rfl rfl ?_
  exact o_retA W9 hlk (v := (.ref r1_1)) hret rfl rfl (hb hy d21_33) (by decide) (by decide) ⟨r1_1, r2_1, (Nat.le_trans W0.keep.1 P1_0), P9_0, rfl⟩
theorem rm167 (l : Launch) {Z a0} (hw : HW Z a0) (a1 : Addr) (z0 : ClassId) (x1 x2 : Int32) (h0 : Heap) (O0 : Old Z Z.heap.size h0) (z1 : Sta Z Z.heap s0 s2 "Z" (.int 1)) (z2 : Arv Z h0 a1 z0 .byte 8 [(.int (((own_hi x1) >>> ((0 : Int32) &&& 31)).toInt8.toInt32)), (.int (((own_hi x1) >>> ((8 : Int32) &&& 31)).toInt8.toInt32)), (.int (((own_lo x1) >>> ((0 : Int32) &&& 31)).toInt8.toInt32)), (.int (((own_lo x1) >>> ((8 : Int32) &&& 31)).toInt8.toInt32)), (.int (((own_hi x2) >>> ((0 : Int32) &&& 31)).toInt8.toInt32)), (.int (((own_hi x2) >>> ((8 : Int32) &&& 31)).toInt8.toInt32)), (.int (((own_lo x2) >>> ((0 : Int32) &&& 31)).toInt8.toInt32)), (.int (((own_lo x2) >>> ((8 : Int32) &&& 31)).toInt8.toInt32))] iZ) (z3 : Sta Z Z.heap s0 s3 "I" iZ) (z4 : Sta Z Z.heap s0 s4 "I" (.int 8)) :
    CtrN l Z mn26 jdk_52_method_5_code 2 (some .char) [] (⟨0, 0, 0, 0⟩ : Room) #[(.ref a1), iZ] h0 [] (fun v h => v = some (.int (own_hi x1))) := by
  refine CtrN.intro (L0 := #[vr a1, vi 0]) (plainFor_of_name pn5) O0 (own_entry rfl) ?_
  intro p e s m below meth c T0 hy hml hret hlk hnm W0
  refine o_getS W0 (w107 hw) Via.refl (z1.ext W0.ox) 3 (hb hy d25_0) rfl ?_
  intro T1 W1
  refine o_ifY W1 28 (hb hy d25_3) (XT.i0_ne_t (by decide)) (by decide) rfl <| o_iloadN W1 29 (hb hy d25_28) rfl rfl <| o_iconst W1 (v := 1) 30 (hb hy d25_29) rfl rfl <| o_ishl W1 (v := 0) 31 (hb hy d25_30) (by decide) rfl <| o_istoreN W1 (L' := #[vr a1, vi 0]) 32 (hb hy d25_31) rfl rfl <| o_aloadN W1 33 (hb hy d25_32) rfl rfl rfl ?_
  refine o_iloadN W1 34 (hb hy d25_33) rfl rfl <| o_iinc W1 (v := 1) (L' := #[vr a1, vi 1]) 37 (hb hy d25_34) rfl (by decide) rfl rfl <| o_baload W1 z2 (x := (((own_hi x1) >>> ((0 : Int32) &&& 31)).toInt8.toInt32)) (i := 0) (by decide) (by decide) (by decide) rfl 38 (hb hy d25_37) rfl <| o_sipush W1 (v := 255) 41 (hb hy d25_38) (by decide) rfl <| o_iand W1 (v := ((((own_hi x1) >>> ((0 : Int32) &&& 31)).toInt8.toInt32) &&& 255)) 42 (hb hy d25_41) rfl rfl ?_
  refine o_getS W1 (w108 hw) Via.refl (z3.ext W1.ox) 45 (hb hy d25_42) rfl ?_
  intro T2 W2
  refine o_ishl W2 (v := (((((own_hi x1) >>> ((0 : Int32) &&& 31)).toInt8.toInt32) &&& 255) <<< ((0 : Int32) &&& 31))) 46 (hb hy d25_45) rfl rfl <| o_aloadN W2 47 (hb hy d25_46) rfl rfl rfl <| o_iloadN W2 48 (hb hy d25_47) rfl rfl <| o_baload W2 z2 (x := (((own_hi x1) >>> ((8 : Int32) &&& 31)).toInt8.toInt32)) (i := 1) (by decide) (by decide) (by decide) rfl 49 (hb hy d25_48) rfl <| o_sipush W2 (v := 255) 52 (hb hy d25_49) (by decide) rfl <| o_iand W2 (v := ((((own_hi x1) >>> ((8 : Int32) &&& 31)).toInt8.toInt32) &&& 255)) 53 (hb hy d25_52) rfl rfl ?_
  refine o_getS W2 (w109 hw) Via.refl (z4.ext W2.ox) 56 (hb hy d25_53) rfl ?_
  intro T3 W3
  refine o_ishl W3 (v := (((((own_hi x1) >>> ((8 : Int32) &&& 31)).toInt8.toInt32) &&& 255) <<< ((8 : Int32) &&& 31))) 57 (hb hy d25_56) rfl rfl <| o_ior W3 (v := ((((((own_hi x1) >>> ((0 : Int32) &&& 31)).toInt8.toInt32) &&& 255) <<< ((0 : Int32) &&& 31)) ||| (((((own_hi x1) >>> ((8 : Int32) &&& 31)).toInt8.toInt32) &&& 255) <<< ((8 : Int32) &&& 31)))) 58 (hb hy d25_57) rfl rfl <| o_i2c W3 (v := (own_hi x1)) 59 (hb hy d25_58) (own_join (own_hic _)) rfl ?_
  exact o_retN W3 hlk (t := .char) hret (by simp) (z' := (own_hi x1)) (own_i2cc (own_hic _)) (hb hy d25_59) (by decide) (by decide) rfl
theorem rm168 (l : Launch) {Z a0} (hw : HW Z a0) (a1 : Addr) (z0 : ClassId) (x1 x2 : Int32) (h0 : Heap) (O0 : Old Z Z.heap.size h0) (z1 : Arv Z h0 a1 z0 .char 4 [(.int (own_hi x1)), (.int (own_lo x1)), (.int (own_hi x2)), (.int (own_lo x2))] iZ) (hu3 : own_cp x1) (hc4 : ¬ (x1 < (65536 : Int32))) (z2 : Sta Z Z.heap s0 s2 "Z" (.int 1)) (z3 : Sta Z Z.heap s0 s3 "I" iZ) (z4 : Sta Z Z.heap s0 s4 "I" (.int 8)) :
    CtrN l Z mn17 jdk_52_method_16_code 6 (some (.array .byte)) [] (⟨3, 2, 12, 40⟩ : Room) #[(.ref a1), iZ, (.int 4)] h0 [] (fun v h => ∃ r1 : Addr, ∃ r2 : ClassId, h0.size ≤ r1 ∧ Arv Z h r1 r2 .byte 8 [(.int (((own_hi x1) >>> ((0 : Int32) &&& 31)).toInt8.toInt32)), (.int (((own_hi x1) >>> ((8 : Int32) &&& 31)).toInt8.toInt32)), (.int (((own_lo x1) >>> ((0 : Int32) &&& 31)).toInt8.toInt32)), (.int (((own_lo x1) >>> ((8 : Int32) &&& 31)).toInt8.toInt32)), (.int (((own_hi x2) >>> ((0 : Int32) &&& 31)).toInt8.toInt32)), (.int (((own_hi x2) >>> ((8 : Int32) &&& 31)).toInt8.toInt32)), (.int (((own_lo x2) >>> ((0 : Int32) &&& 31)).toInt8.toInt32)), (.int (((own_lo x2) >>> ((8 : Int32) &&& 31)).toInt8.toInt32))] iZ ∧ v = some (.ref r1)) := by
  refine CtrN.intro (L0 := #[vr a1, vi 0, vi 4, un, un, un]) (plainFor_of_name pn5) O0 (own_entry rfl) ?_
  intro p e s m below meth c T0 hy hml hret hlk hnm W0
  refine o_iloadN W0 1 (hb hy d12_0) rfl rfl ?_
  refine o_newP W0 (aty := .byte) (w25 hw) tri (by decide) (cap := 4) (by decide) (by decide) 3 (hb hy d12_1) rfl (cells' := 1) (slots' := 4) rfl rfl (by decide) (by decide) (vs := [iZ, iZ, iZ, iZ]) (dv := iZ) rfl rfl ?_
  intro b1 T1 h1 k1 W1 E1 ge1 gz1 gb1 V1
  refine o_astoreN W1 (L' := #[vr a1, vi 0, vi 4, vr b1, un, un]) 4 (hb hy d12_3) rfl rfl rfl <| o_aloadN W1 5 (hb hy d12_4) rfl rfl rfl <| o_iloadN W1 6 (hb hy d12_5) rfl rfl <| o_aloadN W1 7 (hb hy d12_6) rfl rfl rfl <| o_iconst W1 (v := 0) 8 (hb hy d12_7) rfl rfl <| o_iloadN W1 9 (hb hy d12_8) rfl rfl ?_
  have c2 := (z1.ext E1)
  refine o_staticC W1 (w62 hw) (w63 hw) (w60 hw) (w64 hw) (by decide) (rm159 l hw a1 b1 z0 x1 x2 h1 W1.old c2 hu3 hc4) 0 1 4 (by decide) (by rw [hml]; rfl) (lenOf pd9 rfl) [] rfl rfl 12 (hb hy d12_9) rfl rfl rfl all0 tri ?_
  intro v5 T5 h5 lo5 W5 K5 q5
  obtain rfl := q5.2.2
  show Gl _ _ _ _ _ _ _ _ [iZ]
  refine o_istore W5 (L' := #[vr a1, vi 0, vi 4, vr b1, vi 0, un]) 14 (hb hy d12_12) rfl rfl <| o_iload W5 16 (hb hy d12_14) rfl rfl <| o_iloadN W5 17 (hb hy d12_16) rfl rfl <| o_icmpN W5 20 (hb hy d12_17) (XT.ii_eq_f (by decide)) rfl <| o_aloadN W5 21 (hb hy d12_20) rfl rfl rfl <| o_iloadN W5 22 (hb hy d12_21) rfl rfl ?_
  refine o_iloadN W5 23 (hb hy d12_22) rfl rfl ?_
  have c6 := (c2.keep K5 nin0)
  refine o_staticC W5 (w94 hw) (w95 hw) (w60 hw) (w96 hw) (by decide) (rm166 l hw a1 z0 x1 x2 h5 W5.old c6 z2 z3 z4) 0 2 12 (by decide) (by rw [hml]; rfl) (lenOf pd10 rfl) [] rfl rfl 26 (hb hy d12_23) rfl rfl rfl all0 tri ?_
  intro v7 T7 h7 lo7 W7 K7 q7
  obtain ⟨r1_7, r2_7, P7_0, P7_1, rfl⟩ := q7.2.2
  show Gl _ _ _ _ _ _ _ _ [(.ref r1_7)]
  refine o_astore W7 (L' := #[vr a1, vi 0, vi 4, vr b1, vi 0, vr r1_7]) 28 (hb hy d12_26) rfl rfl rfl <| o_aload W7 30 (hb hy d12_28) rfl rfl rfl <| o_iload W7 32 (hb hy d12_30) rfl rfl ?_
  refine o_staticC W7 (w110 hw) (w111 hw) (w60 hw) (w112 hw) (by decide) (rm167 l hw r1_7 r2_7 x1 x2 h7 W7.old z2 P7_1 z3 z4) 0 2 12 (by decide) (by rw [hml]; rfl) (lenOf pd17 rfl) [] rfl rfl 35 (hb hy d12_32) rfl rfl rfl all0 tri ?_
  intro v8 T8 h8 lo8 W8 K8 q8
  obtain rfl := q8.2.2
  show Gl _ _ _ _ _ _ _ _ [(.int (own_hi x1))]
  refine o_sipush W8 (v := 255) 38 (hb hy d12_35) (by decide) rfl <| o_icmpY W8 54 (hb hy d12_38) (XT.ii_gt_t (own_hiI (own_spI hu3 hc4)).2.2) (by decide) rfl <| o_aload W8 56 (hb hy d12_54) rfl rfl rfl ?_
  have c9 := (P7_1.keep K8 nin0)
  exact o_retA W8 hlk (v := (.ref r1_7)) hret rfl rfl (hb hy d12_56) (by decide) (by decide) ⟨r1_7, r2_7, (Nat.le_trans W5.keep.1 P7_0), c9, rfl⟩
theorem rm169 (l : Launch) {Z a0} (hw : HW Z a0) (a1 : Addr) (z0 : ClassId) (x1 x2 : Int32) (h0 : Heap) (O0 : Old Z Z.heap.size h0) (z1 : Arv Z h0 a1 z0 .byte 8 [(.int (((own_hi x1) >>> ((0 : Int32) &&& 31)).toInt8.toInt32)), (.int (((own_hi x1) >>> ((8 : Int32) &&& 31)).toInt8.toInt32)), (.int (((own_lo x1) >>> ((0 : Int32) &&& 31)).toInt8.toInt32)), (.int (((own_lo x1) >>> ((8 : Int32) &&& 31)).toInt8.toInt32)), (.int (((own_hi x2) >>> ((0 : Int32) &&& 31)).toInt8.toInt32)), (.int (((own_hi x2) >>> ((8 : Int32) &&& 31)).toInt8.toInt32)), (.int (((own_lo x2) >>> ((0 : Int32) &&& 31)).toInt8.toInt32)), (.int (((own_lo x2) >>> ((8 : Int32) &&& 31)).toInt8.toInt32))] iZ) :
    CtrN l Z mn18 jdk_52_method_15_code 2 (some .byte) [] (⟨0, 0, 0, 0⟩ : Room) #[(.ref a1), (.int 4)] h0 [] (fun v h => v = some (.int 1)) := by
  refine CtrN.intro (L0 := #[vr a1, vi 4]) (plainFor_of_name pn5) O0 (own_entry rfl) ?_
  intro p e s m below meth c T0 hy hml hret hlk hnm W0
  refine o_iloadN W0 1 (hb hy d14_0) rfl rfl <| o_aloadN W0 2 (hb hy d14_1) rfl rfl rfl <| o_len W0 z1 3 (hb hy d14_2) rfl <| o_isub W0 (v := (-4 : Int32)) 4 (hb hy d14_3) (by decide) rfl <| o_bipush W0 (v := 31) 6 (hb hy d14_4) (by decide) rfl <| o_iushr W0 (v := 1) 7 (hb hy d14_6) (by decide) rfl ?_
  refine o_i2b W0 (v := 1) 8 (hb hy d14_7) (by decide) rfl ?_
  exact o_retN W0 hlk (t := .byte) hret (by simp) (z' := (1 : Int32)) (by decide) (hb hy d14_8) (by decide) (by decide) rfl
theorem rm170 (l : Launch) {Z a0} (hw : HW Z a0) (gCS : Int32) (a1 a2 : Addr) (z0 : ClassId) (x1 x2 : Int32) (h0 : Heap) (O0 : Old Z Z.heap.size h0) (SgCS : Sta Z Z.heap s1 s5 "Z" (.int gCS)) (NgCS : ¬ (gCS = (0 : Int32))) (z1 : Arv Z h0 a2 z0 .char 4 [(.int (own_hi x1)), (.int (own_lo x1)), (.int (own_hi x2)), (.int (own_lo x2))] iZ) (hu3 : own_cp x1) (hc4 : ¬ (x1 < (65536 : Int32))) (z2 : Sta Z Z.heap s0 s2 "Z" (.int 1)) (z3 : Sta Z Z.heap s0 s3 "I" iZ) (z4 : Sta Z Z.heap s0 s4 "I" (.int 8)) (z5 : Exa Z h0 a1 s1) (z6 : Fld Z h0 a1 s1 "coder" "B" iZ) (z7 : Z.heap.size ≤ a1) (z8 : Fld Z h0 a1 s1 "value" "[B" .null) :
    CtrN l Z mn8 jdk_42_method_149_code 6 none [] (⟨4, 2, 12, 57⟩ : Room) #[(.ref a1), (.ref a2), iZ, (.int 4), .null] h0 [a1] (fun v h => ∃ r1 : Addr, ∃ r2 : ClassId, h0.size ≤ r1 ∧ Fld Z h a1 s1 "coder" "B" (.int 1) ∧ Fld Z h a1 s1 "value" "[B" (.ref r1) ∧ Arv Z h r1 r2 .byte 8 [(.int (((own_hi x1) >>> ((0 : Int32) &&& 31)).toInt8.toInt32)), (.int (((own_hi x1) >>> ((8 : Int32) &&& 31)).toInt8.toInt32)), (.int (((own_lo x1) >>> ((0 : Int32) &&& 31)).toInt8.toInt32)), (.int (((own_lo x1) >>> ((8 : Int32) &&& 31)).toInt8.toInt32)), (.int (((own_hi x2) >>> ((0 : Int32) &&& 31)).toInt8.toInt32)), (.int (((own_hi x2) >>> ((8 : Int32) &&& 31)).toInt8.toInt32)), (.int (((own_lo x2) >>> ((0 : Int32) &&& 31)).toInt8.toInt32)), (.int (((own_lo x2) >>> ((8 : Int32) &&& 31)).toInt8.toInt32))] iZ ∧ v = none) := by
  refine CtrN.intro (L0 := #[vr a1, vr a2, vi 0, vi 4, .val .null, un]) (plainFor_of_name pn2) O0 (own_entry rfl) ?_
  intro p e s m below meth c T0 hy hml hret hlk hnm W0
  refine o_aloadN W0 1 (hb hy d4_0) rfl rfl rfl ?_
  refine o_initO W0 (w21 hw) (w22 hw) (w23 hw) (by rw [hml]; rfl) 4 (hb hy d4_1) rfl (by decide) 0 (by exact Nat.le_of_eq rfl) (by decide) ?_
  intro T1 W1
  refine o_iloadN W1 5 (hb hy d4_4) rfl rfl <| o_ifY W1 27 (hb hy d4_5) (XT.i0_ne_t (by decide)) (by decide) rfl ?_
  refine o_getS W1 (w49 hw) Via.refl (SgCS.ext W1.ox) 30 (hb hy d4_27) rfl ?_
  intro T2 W2
  refine o_ifN W2 33 (hb hy d4_30) (XT.i0_eq_f NgCS) rfl <| o_aloadN W2 34 (hb hy d4_33) rfl rfl rfl <| o_iloadN W2 35 (hb hy d4_34) rfl rfl <| o_iloadN W2 36 (hb hy d4_35) rfl rfl ?_
  refine o_staticC W2 (w58 hw) (w59 hw) (w60 hw) (w61 hw) (by decide) (rm168 l hw a2 z0 x1 x2 h0 W2.old z1 hu3 hc4 z2 z3 z4) 0 2 12 (by decide) (by rw [hml]; rfl) (lenOf pd10 rfl) [] rfl rfl 39 (hb hy d4_36) rfl rfl rfl all0 tri ?_
  intro v5 T5 h5 lo5 W5 K5 q5
  obtain ⟨r1_5, r2_5, P5_0, P5_1, rfl⟩ := q5.2.2
  show Gl _ _ _ _ _ _ _ _ [(.ref r1_5)]
  refine o_astore W5 (L' := #[vr a1, vr a2, vi 0, vi 4, .val .null, vr r1_5]) 41 (hb hy d4_39) rfl rfl rfl <| o_aloadN W5 42 (hb hy d4_41) rfl rfl rfl <| o_aload W5 44 (hb hy d4_42) rfl rfl rfl <| o_iloadN W5 45 (hb hy d4_44) rfl rfl ?_
  refine o_staticC W5 (w65 hw) (w66 hw) (w60 hw) (w67 hw) (by decide) (rm169 l hw r1_5 r2_5 x1 x2 h5 W5.old P5_1) 1 2 12 (by decide) (by rw [hml]; rfl) (lenOf pd11 rfl) [(.ref a1)] rfl rfl 48 (hb hy d4_45) rfl rfl rfl all0 tri ?_
  intro v6 T6 h6 lo6 W6 K6 q6
  obtain rfl := q6.2.2
  show Gl _ _ _ _ _ _ _ _ [(.int 1), (.ref a1)]
  have c7 := ((z5.keep K5).keep K6)
  have c8 := ((z6.keep K5 nin0).keep K6 nin0)
  refine o_putF W6 (w31 hw) Via.refl c8 c7 (Or.inr ⟨(w27 hw), rfl, hnm⟩) (w11 hw) (ty := .byte) (v' := (.int 1)) (by decide) rfl (by decide) z7 m0 tri 51 (hb hy d4_48) rfl ?_
  intro T9 h9 lo9 W9 R9
  have F9 := c8.same R9
  refine o_aloadN W9 52 (hb hy d4_51) rfl rfl rfl <| o_aload W9 54 (hb hy d4_52) rfl rfl rfl ?_
  have c10 := (c7.wr R9)
  have c11 := (((z8.keep K5 nin0).keep K6 nin0).other R9 (Or.inr (slot_ne (Or.inr (w26 hw)) (Or.inr (w27 hw)) (by decide) (t := (.array .byte)) (t' := .byte) (by decide) (by decide))))
  refine o_putF W9 (w30 hw) Via.refl c11 c10 (Or.inr ⟨(w26 hw), rfl, hnm⟩) (w11 hw) (ty := (.array .byte)) (v' := (.ref r1_5)) (by decide) rfl rfl z7 m0 tri 57 (hb hy d4_54) rfl ?_
  intro T12 h12 lo12 W12 R12
  have F12 := c11.same R12
  have c13 := (F9.other R12 (Or.inr (slot_ne (Or.inr (w27 hw)) (Or.inr (w26 hw)) (by decide) (t := .byte) (t' := (.array .byte)) (by decide) (by decide))))
  have c14 := (c10.wr R12)
  have c15 := (((P5_1.keep K6 nin0).other R9 (own_ne' z5.lt P5_0)).other R12 (own_ne' z5.lt P5_0))
  exact o_ret0 W12 hlk hret (hb hy d4_57) (by decide) (by decide) ⟨r1_5, r2_5, (Nat.le_trans W2.keep.1 P5_0), c13, F12, c15, rfl⟩
theorem rm171 (l : Launch) {Z a0} (hw : HW Z a0) (gCS : Int32) (a1 a2 : Addr) (z0 : ClassId) (x1 x2 : Int32) (h0 : Heap) (O0 : Old Z Z.heap.size h0) (z1 : Arv Z h0 a2 z0 .char 4 [(.int (own_hi x1)), (.int (own_lo x1)), (.int (own_hi x2)), (.int (own_lo x2))] iZ) (SgCS : Sta Z Z.heap s1 s5 "Z" (.int gCS)) (NgCS : ¬ (gCS = (0 : Int32))) (hu1 : own_cp x1) (hc2 : ¬ (x1 < (65536 : Int32))) (z2 : Sta Z Z.heap s0 s2 "Z" (.int 1)) (z3 : Sta Z Z.heap s0 s3 "I" iZ) (z4 : Sta Z Z.heap s0 s4 "I" (.int 8)) (z5 : Exa Z h0 a1 s1) (z6 : Fld Z h0 a1 s1 "coder" "B" iZ) (z7 : Fld Z h0 a1 s1 "value" "[B" .null) (z8 : Z.heap.size ≤ a1) :
    CtrN l Z mn9 jdk_42_method_3_code 2 none [] (⟨5, 2, 12, 74⟩ : Room) #[(.ref a1), (.ref a2)] h0 [a1] (fun v h => ∃ r1 : Addr, ∃ r2 : ClassId, h0.size ≤ r1 ∧ Fld Z h a1 s1 "coder" "B" (.int 1) ∧ Fld Z h a1 s1 "value" "[B" (.ref r1) ∧ Arv Z h r1 r2 .byte 8 [(.int (((own_hi x1) >>> ((0 : Int32) &&& 31)).toInt8.toInt32)), (.int (((own_hi x1) >>> ((8 : Int32) &&& 31)).toInt8.toInt32)), (.int (((own_lo x1) >>> ((0 : Int32) &&& 31)).toInt8.toInt32)), (.int (((own_lo x1) >>> ((8 : Int32) &&& 31)).toInt8.toInt32)), (.int (((own_hi x2) >>> ((0 : Int32) &&& 31)).toInt8.toInt32)), (.int (((own_hi x2) >>> ((8 : Int32) &&& 31)).toInt8.toInt32)), (.int (((own_lo x2) >>> ((0 : Int32) &&& 31)).toInt8.toInt32)), (.int (((own_lo x2) >>> ((8 : Int32) &&& 31)).toInt8.toInt32))] iZ ∧ v = none) := by
  refine CtrN.intro (L0 := #[vr a1, vr a2]) (plainFor_of_name pn2) O0 (own_entry rfl) ?_
  intro p e s m below meth c T0 hy hml hret hlk hnm W0
  refine o_aloadN W0 1 (hb hy d3_0) rfl rfl rfl <| o_aloadN W0 2 (hb hy d3_1) rfl rfl rfl <| o_iconst W0 (v := 0) 3 (hb hy d3_2) rfl rfl <| o_aloadN W0 4 (hb hy d3_3) rfl rfl rfl <| o_len W0 z1 5 (hb hy d3_4) rfl ?_
  refine o_aconstNull W0 6 (hb hy d3_5) rfl ?_
  refine o_specialC W0 rfl (w17 hw) (w18 hw) (w20 hw) (by decide) (w12 hw) (rm170 l hw gCS a1 a2 z0 x1 x2 h0 W0.old SgCS NgCS z1 hu1 hc2 z2 z3 z4 z5 z6 z8 z7) 0 2 12 (by decide) (by rw [hml]; rfl) (lenOf pd1 rfl) [] rfl rfl 9 (hb hy d3_6) rfl rfl rfl (allS ⟨z8, m0⟩ all0) tri ?_
  intro v3 T3 h3 lo3 W3 K3 q3
  obtain ⟨r1_3, r2_3, P3_0, P3_1, P3_2, P3_3, rfl⟩ := q3.2.2
  show Gl _ _ _ _ _ _ _ _ []
  have c4 := (z5.keep K3)
  exact o_ret0 W3 hlk hret (hb hy d3_9) (by decide) (by decide) ⟨r1_3, r2_3, (Nat.le_trans W0.keep.1 P3_0), P3_1, P3_2, P3_3, rfl⟩
theorem rm172 (l : Launch) {Z a0} (hw : HW Z a0) (gCS : Int32) (a1 a2 : Addr) (z0 : ClassId) (x1 x2 : Int32) (h0 : Heap) (O0 : Old Z Z.heap.size h0) (z1 : Fld Z h0 a1 s1 "value" "[B" (.ref a2)) (z2 : Arv Z h0 a2 z0 .byte 8 [(.int (((own_hi x1) >>> ((0 : Int32) &&& 31)).toInt8.toInt32)), (.int (((own_hi x1) >>> ((8 : Int32) &&& 31)).toInt8.toInt32)), (.int (((own_lo x1) >>> ((0 : Int32) &&& 31)).toInt8.toInt32)), (.int (((own_lo x1) >>> ((8 : Int32) &&& 31)).toInt8.toInt32)), (.int (((own_hi x2) >>> ((0 : Int32) &&& 31)).toInt8.toInt32)), (.int (((own_hi x2) >>> ((8 : Int32) &&& 31)).toInt8.toInt32)), (.int (((own_lo x2) >>> ((0 : Int32) &&& 31)).toInt8.toInt32)), (.int (((own_lo x2) >>> ((8 : Int32) &&& 31)).toInt8.toInt32))] iZ) (z3 : Exa Z h0 a1 s1) (SgCS : Sta Z Z.heap s1 s5 "Z" (.int gCS)) (NgCS : ¬ (gCS = (0 : Int32))) (z4 : Fld Z h0 a1 s1 "coder" "B" (.int 1)) :
    CtrN l Z mn0 jdk_42_method_54_code 1 (some .int) [] (⟨1, 0, 0, 14⟩ : Room) #[(.ref a1)] h0 [] (fun v h => v = some (.int 4)) := by
  refine CtrN.intro (L0 := #[vr a1]) (plainFor_of_name pn2) O0 (own_entry rfl) ?_
  intro p e s m below meth c T0 hy hml hret hlk hnm W0
  refine o_aloadN W0 1 (hb hy d8_0) rfl rfl rfl ?_
  refine o_getF W0 (w30 hw) Via.refl z1 4 (hb hy d8_1) rfl ?_
  intro T1 W1
  refine o_len W1 z2 5 (hb hy d8_4) rfl <| o_aloadN W1 6 (hb hy d8_5) rfl rfl rfl ?_
  refine o_virtualC W1 (w44 hw) (w45 hw) (o_nf W1 rfl (w47 hw)) (w47 hw) (w46 hw) (by decide) z3 (w48 hw) (w12 hw) (rm37 l hw gCS a1 h0 W1.old SgCS NgCS z4) 1 0 0 (by decide) (by rw [hml]; rfl) (lenOf pd3 rfl) [(.int 8)] rfl rfl 9 (hb hy d8_6) rfl rfl rfl all0 tri ?_
  intro v2 T2 h2 lo2 W2 K2 q2
  obtain rfl := q2.2.2
  show Gl _ _ _ _ _ _ _ _ [(.int 1), (.int 8)]
  refine o_ishr W2 (v := 4) 10 (hb hy d8_9) (by decide) rfl ?_
  exact o_retI W2 hlk hret (hb hy d8_10) (by decide) (by decide) rfl
theorem rm173 (l : Launch) {Z a0} (hw : HW Z a0)  (h0 : Heap) (O0 : Old Z Z.heap.size h0) :
    CtrN l Z mn20 jdk_41_method_11_code 3 (some .int) [] (⟨0, 0, 0, 0⟩ : Room) #[iZ, (.int 4), .null] h0 [] (fun v h => v = some iZ) := by
  refine CtrN.intro (L0 := #[vi 0, vi 4, .val .null]) (plainFor_of_name pn6) O0 (own_entry rfl) ?_
  intro p e s m below meth c T0 hy hml hret hlk hnm W0
  refine o_iloadN W0 1 (hb hy d18_0) rfl rfl <| o_ifN W0 4 (hb hy d18_1) (XT.i0_lt_f (by decide)) rfl <| o_iloadN W0 5 (hb hy d18_4) rfl rfl <| o_iloadN W0 6 (hb hy d18_5) rfl rfl <| o_icmpY W0 16 (hb hy d18_6) (XT.ii_lt_t (by decide)) (by decide) rfl <| o_iloadN W0 17 (hb hy d18_16) rfl rfl ?_
  exact o_retI W0 hlk hret (hb hy d18_17) (by decide) (by decide) rfl
theorem rm174 (l : Launch) {Z a0} (hw : HW Z a0) (a1 : Addr) (h0 : Heap) (O0 : Old Z Z.heap.size h0) :
    CtrN l Z mn20 jdk_41_method_11_code 3 (some .int) [] (⟨0, 0, 0, 0⟩ : Room) #[iZ, (.int 4), (.ref a1)] h0 [] (fun v h => v = some iZ) := by
  refine CtrN.intro (L0 := #[vi 0, vi 4, vr a1]) (plainFor_of_name pn6) O0 (own_entry rfl) ?_
  intro p e s m below meth c T0 hy hml hret hlk hnm W0
  refine o_iloadN W0 1 (hb hy d18_0) rfl rfl <| o_ifN W0 4 (hb hy d18_1) (XT.i0_lt_f (by decide)) rfl <| o_iloadN W0 5 (hb hy d18_4) rfl rfl <| o_iloadN W0 6 (hb hy d18_5) rfl rfl <| o_icmpY W0 16 (hb hy d18_6) (XT.ii_lt_t (by decide)) (by decide) rfl <| o_iloadN W0 17 (hb hy d18_16) rfl rfl ?_
  exact o_retI W0 hlk hret (hb hy d18_17) (by decide) (by decide) rfl
theorem rm175 (l : Launch) {Z a0} (hw : HW Z a0) (gF : Value) (h0 : Heap) (O0 : Old Z Z.heap.size h0) (SgF : Sta Z Z.heap s6 s7 s8 gF) (NgF : gF.isRef = true) :
    CtrN l Z mn21 jdk_42_method_155_code 2 none [] (⟨1, 0, 0, 14⟩ : Room) #[iZ, (.int 4)] h0 [] (fun v h => v = none) := by
  refine CtrN.intro (L0 := #[vi 0, vi 4]) (plainFor_of_name pn2) O0 (own_entry rfl) ?_
  intro p e s m below meth c T0 hy hml hret hlk hnm W0
  refine o_iloadN W0 1 (hb hy d17_0) rfl rfl <| o_iloadN W0 2 (hb hy d17_1) rfl rfl ?_
  rcases ref_cases NgF with rfl | ⟨aF1, rfl⟩
  · refine o_getS W0 (w81 hw) Via.refl (SgF.ext W0.ox) 5 (hb hy d17_2) rfl ?_
    intro T2 W2
    refine o_staticC W2 (w83 hw) (w84 hw) (w82 hw) (w85 hw) (by decide) (rm173 l hw  h0 W2.old ) 0 0 0 (by decide) (by rw [hml]; rfl) (lenOf pd13 rfl) [] rfl rfl 8 (hb hy d17_5) rfl rfl rfl all0 tri ?_
    intro v3 T3 h3 lo3 W3 K3 q3
    obtain rfl := q3.2.2
    show Gl _ _ _ _ _ _ _ _ [iZ]
    refine o_pop W3 9 (hb hy d17_8) rfl rfl ?_
    exact o_ret0 W3 hlk hret (hb hy d17_9) (by decide) (by decide) rfl
  · refine o_getS W0 (w81 hw) Via.refl (SgF.ext W0.ox) 5 (hb hy d17_2) rfl ?_
    intro T4 W4
    refine o_staticC W4 (w83 hw) (w84 hw) (w82 hw) (w85 hw) (by decide) (rm174 l hw aF1 h0 W4.old ) 0 0 0 (by decide) (by rw [hml]; rfl) (lenOf pd13 rfl) [] rfl rfl 8 (hb hy d17_5) rfl rfl rfl all0 tri ?_
    intro v5 T5 h5 lo5 W5 K5 q5
    obtain rfl := q5.2.2
    show Gl _ _ _ _ _ _ _ _ [iZ]
    refine o_pop W5 9 (hb hy d17_8) rfl rfl ?_
    exact o_ret0 W5 hlk hret (hb hy d17_9) (by decide) (by decide) rfl
theorem rm176 (l : Launch) {Z a0} (hw : HW Z a0) (a1 : Addr) (z0 : ClassId) (x1 x2 : Int32) (h0 : Heap) (O0 : Old Z Z.heap.size h0) (z1 : Sta Z Z.heap s0 s2 "Z" (.int 1)) (z2 : Arv Z h0 a1 z0 .byte 8 [(.int (((own_hi x1) >>> ((0 : Int32) &&& 31)).toInt8.toInt32)), (.int (((own_hi x1) >>> ((8 : Int32) &&& 31)).toInt8.toInt32)), (.int (((own_lo x1) >>> ((0 : Int32) &&& 31)).toInt8.toInt32)), (.int (((own_lo x1) >>> ((8 : Int32) &&& 31)).toInt8.toInt32)), (.int (((own_hi x2) >>> ((0 : Int32) &&& 31)).toInt8.toInt32)), (.int (((own_hi x2) >>> ((8 : Int32) &&& 31)).toInt8.toInt32)), (.int (((own_lo x2) >>> ((0 : Int32) &&& 31)).toInt8.toInt32)), (.int (((own_lo x2) >>> ((8 : Int32) &&& 31)).toInt8.toInt32))] iZ) (z3 : Sta Z Z.heap s0 s3 "I" iZ) (z4 : Sta Z Z.heap s0 s4 "I" (.int 8)) :
    CtrN l Z mn26 jdk_52_method_5_code 2 (some .char) [] (⟨0, 0, 0, 0⟩ : Room) #[(.ref a1), (.int 1)] h0 [] (fun v h => v = some (.int (own_lo x1))) := by
  refine CtrN.intro (L0 := #[vr a1, vi 1]) (plainFor_of_name pn5) O0 (own_entry rfl) ?_
  intro p e s m below meth c T0 hy hml hret hlk hnm W0
  refine o_getS W0 (w107 hw) Via.refl (z1.ext W0.ox) 3 (hb hy d25_0) rfl ?_
  intro T1 W1
  refine o_ifY W1 28 (hb hy d25_3) (XT.i0_ne_t (by decide)) (by decide) rfl <| o_iloadN W1 29 (hb hy d25_28) rfl rfl <| o_iconst W1 (v := 1) 30 (hb hy d25_29) rfl rfl <| o_ishl W1 (v := 2) 31 (hb hy d25_30) (by decide) rfl <| o_istoreN W1 (L' := #[vr a1, vi 2]) 32 (hb hy d25_31) rfl rfl <| o_aloadN W1 33 (hb hy d25_32) rfl rfl rfl ?_
  refine o_iloadN W1 34 (hb hy d25_33) rfl rfl <| o_iinc W1 (v := 3) (L' := #[vr a1, vi 3]) 37 (hb hy d25_34) rfl (by decide) rfl rfl <| o_baload W1 z2 (x := (((own_lo x1) >>> ((0 : Int32) &&& 31)).toInt8.toInt32)) (i := 2) (by decide) (by decide) (by decide) rfl 38 (hb hy d25_37) rfl <| o_sipush W1 (v := 255) 41 (hb hy d25_38) (by decide) rfl <| o_iand W1 (v := ((((own_lo x1) >>> ((0 : Int32) &&& 31)).toInt8.toInt32) &&& 255)) 42 (hb hy d25_41) rfl rfl ?_
  refine o_getS W1 (w108 hw) Via.refl (z3.ext W1.ox) 45 (hb hy d25_42) rfl ?_
  intro T2 W2
  refine o_ishl W2 (v := (((((own_lo x1) >>> ((0 : Int32) &&& 31)).toInt8.toInt32) &&& 255) <<< ((0 : Int32) &&& 31))) 46 (hb hy d25_45) rfl rfl <| o_aloadN W2 47 (hb hy d25_46) rfl rfl rfl <| o_iloadN W2 48 (hb hy d25_47) rfl rfl <| o_baload W2 z2 (x := (((own_lo x1) >>> ((8 : Int32) &&& 31)).toInt8.toInt32)) (i := 3) (by decide) (by decide) (by decide) rfl 49 (hb hy d25_48) rfl <| o_sipush W2 (v := 255) 52 (hb hy d25_49) (by decide) rfl <| o_iand W2 (v := ((((own_lo x1) >>> ((8 : Int32) &&& 31)).toInt8.toInt32) &&& 255)) 53 (hb hy d25_52) rfl rfl ?_
  refine o_getS W2 (w109 hw) Via.refl (z4.ext W2.ox) 56 (hb hy d25_53) rfl ?_
  intro T3 W3
  refine o_ishl W3 (v := (((((own_lo x1) >>> ((8 : Int32) &&& 31)).toInt8.toInt32) &&& 255) <<< ((8 : Int32) &&& 31))) 57 (hb hy d25_56) rfl rfl <| o_ior W3 (v := ((((((own_lo x1) >>> ((0 : Int32) &&& 31)).toInt8.toInt32) &&& 255) <<< ((0 : Int32) &&& 31)) ||| (((((own_lo x1) >>> ((8 : Int32) &&& 31)).toInt8.toInt32) &&& 255) <<< ((8 : Int32) &&& 31)))) 58 (hb hy d25_57) rfl rfl <| o_i2c W3 (v := (own_lo x1)) 59 (hb hy d25_58) (own_join (own_loc _)) rfl ?_
  exact o_retN W3 hlk (t := .char) hret (by simp) (z' := (own_lo x1)) (own_i2cc (own_loc _)) (hb hy d25_59) (by decide) (by decide) rfl
theorem rm177 (l : Launch) {Z a0} (hw : HW Z a0) (a1 : Addr) (z0 : ClassId) (x1 x2 : Int32) (h0 : Heap) (O0 : Old Z Z.heap.size h0) (z1 : Sta Z Z.heap s0 s2 "Z" (.int 1)) (z2 : Arv Z h0 a1 z0 .byte 8 [(.int (((own_hi x1) >>> ((0 : Int32) &&& 31)).toInt8.toInt32)), (.int (((own_hi x1) >>> ((8 : Int32) &&& 31)).toInt8.toInt32)), (.int (((own_lo x1) >>> ((0 : Int32) &&& 31)).toInt8.toInt32)), (.int (((own_lo x1) >>> ((8 : Int32) &&& 31)).toInt8.toInt32)), (.int (((own_hi x2) >>> ((0 : Int32) &&& 31)).toInt8.toInt32)), (.int (((own_hi x2) >>> ((8 : Int32) &&& 31)).toInt8.toInt32)), (.int (((own_lo x2) >>> ((0 : Int32) &&& 31)).toInt8.toInt32)), (.int (((own_lo x2) >>> ((8 : Int32) &&& 31)).toInt8.toInt32))] iZ) (z3 : Sta Z Z.heap s0 s3 "I" iZ) (z4 : Sta Z Z.heap s0 s4 "I" (.int 8)) (hu4 : own_cp x1) (hc5 : ¬ (x1 < (65536 : Int32))) :
    CtrN l Z mn27 jdk_52_method_7_code 6 (some .int) [] (⟨1, 0, 0, 13⟩ : Room) #[(.ref a1), iZ, (.int 4), iZ] h0 [] (fun v h => v = some (.int x1)) := by
  refine CtrN.intro (L0 := #[vr a1, vi 0, vi 4, vi 0, un, un]) (plainFor_of_name pn5) O0 (own_entry rfl) ?_
  intro p e s m below meth c T0 hy hml hret hlk hnm W0
  refine o_getS W0 (w107 hw) Via.refl (z1.ext W0.ox) 3 (hb hy d28_0) rfl ?_
  intro T1 W1
  refine o_ifY W1 19 (hb hy d28_3) (XT.i0_ne_t (by decide)) (by decide) rfl <| o_iloadN W1 20 (hb hy d28_19) rfl rfl <| o_ifY W1 28 (hb hy d28_20) (XT.i0_eq_t (by decide)) (by decide) rfl <| o_aloadN W1 29 (hb hy d28_28) rfl rfl rfl <| o_iloadN W1 30 (hb hy d28_29) rfl rfl ?_
  refine o_staticC W1 (w110 hw) (w111 hw) (w60 hw) (w112 hw) (by decide) (rm167 l hw a1 z0 x1 x2 h0 W1.old z1 z2 z3 z4) 0 0 0 (by decide) (by rw [hml]; rfl) (lenOf pd17 rfl) [] rfl rfl 33 (hb hy d28_30) rfl rfl rfl all0 tri ?_
  intro v2 T2 h2 lo2 W2 K2 q2
  obtain rfl := q2.2.2
  show Gl _ _ _ _ _ _ _ _ [(.int (own_hi x1))]
  refine o_istore W2 (L' := #[vr a1, vi 0, vi 4, vi 0, vi (own_hi x1), un]) 35 (hb hy d28_33) rfl rfl <| o_iload W2 37 (hb hy d28_35) rfl rfl ?_
  refine o_staticC W2 (w124 hw) (w125 hw) (w115 hw) (w126 hw) (by decide) (rm4 l hw (own_hi x1) h2 W2.old ) 0 0 0 (by decide) (by rw [hml]; rfl) (lenOf pd18 rfl) [] rfl rfl 40 (hb hy d28_37) rfl rfl rfl all0 tri ?_
  intro v3 T3 h3 lo3 W3 K3 q3
  obtain rfl := q3.2.2
  show Gl _ _ _ _ _ _ _ _ [(.int (own_hs (own_hi x1)))]
  refine o_ifN W3 43 (hb hy d28_40) (XT.i0_eq_f (own_hsY (own_spI hu4 hc5))) rfl <| o_iinc W3 (v := 1) (L' := #[vr a1, vi 1, vi 4, vi 0, vi (own_hi x1), un]) 46 (hb hy d28_43) rfl (by decide) rfl rfl <| o_iloadN W3 47 (hb hy d28_46) rfl rfl <| o_iloadN W3 48 (hb hy d28_47) rfl rfl <| o_icmpN W3 51 (hb hy d28_48) (XT.ii_ge_f (by decide)) rfl <| o_iloadN W3 52 (hb hy d28_51) rfl rfl ?_
  refine o_ifY W3 60 (hb hy d28_52) (XT.i0_eq_t (by decide)) (by decide) rfl <| o_aloadN W3 61 (hb hy d28_60) rfl rfl rfl <| o_iloadN W3 62 (hb hy d28_61) rfl rfl ?_
  have c6 := ((z2.keep K2 nin0).keep K3 nin0)
  refine o_staticC W3 (w110 hw) (w111 hw) (w60 hw) (w112 hw) (by decide) (rm176 l hw a1 z0 x1 x2 h3 W3.old z1 c6 z3 z4) 0 0 0 (by decide) (by rw [hml]; rfl) (lenOf pd17 rfl) [] rfl rfl 65 (hb hy d28_62) rfl rfl rfl all0 tri ?_
  intro v7 T7 h7 lo7 W7 K7 q7
  obtain rfl := q7.2.2
  show Gl _ _ _ _ _ _ _ _ [(.int (own_lo x1))]
  refine o_istore W7 (L' := #[vr a1, vi 1, vi 4, vi 0, vi (own_hi x1), vi (own_lo x1)]) 67 (hb hy d28_65) rfl rfl <| o_iload W7 69 (hb hy d28_67) rfl rfl ?_
  refine o_staticC W7 (w129 hw) (w130 hw) (w115 hw) (w131 hw) (by decide) (rm5 l hw (own_lo x1) h7 W7.old ) 0 0 0 (by decide) (by rw [hml]; rfl) (lenOf pd18 rfl) [] rfl rfl 72 (hb hy d28_69) rfl rfl rfl all0 tri ?_
  intro v8 T8 h8 lo8 W8 K8 q8
  obtain rfl := q8.2.2
  show Gl _ _ _ _ _ _ _ _ [(.int (own_ls (own_lo x1)))]
  refine o_ifN W8 75 (hb hy d28_72) (XT.i0_eq_f (own_lsY (own_spI hu4 hc5))) rfl <| o_iload W8 77 (hb hy d28_75) rfl rfl <| o_iload W8 79 (hb hy d28_77) rfl rfl ?_
  refine o_staticC W8 (w133 hw) (w134 hw) (w115 hw) (w135 hw) (by decide) (rm61 l hw x1 h8 W8.old hu4 hc5) 0 0 0 (by decide) (by rw [hml]; rfl) (lenOf pd22 rfl) [] rfl rfl 82 (hb hy d28_79) rfl rfl rfl all0 tri ?_
  intro v9 T9 h9 lo9 W9 K9 q9
  obtain rfl := q9.2.2
  show Gl _ _ _ _ _ _ _ _ [(.int x1)]
  exact o_retI W9 hlk hret (hb hy d28_82) (by decide) (by decide) rfl
theorem rm178 (l : Launch) {Z a0} (hw : HW Z a0) (a1 : Addr) (z0 : ClassId) (x1 x2 : Int32) (h0 : Heap) (O0 : Old Z Z.heap.size h0) (z1 : Sta Z Z.heap s0 s2 "Z" (.int 1)) (z2 : Arv Z h0 a1 z0 .byte 8 [(.int (((own_hi x1) >>> ((0 : Int32) &&& 31)).toInt8.toInt32)), (.int (((own_hi x1) >>> ((8 : Int32) &&& 31)).toInt8.toInt32)), (.int (((own_lo x1) >>> ((0 : Int32) &&& 31)).toInt8.toInt32)), (.int (((own_lo x1) >>> ((8 : Int32) &&& 31)).toInt8.toInt32)), (.int (((own_hi x2) >>> ((0 : Int32) &&& 31)).toInt8.toInt32)), (.int (((own_hi x2) >>> ((8 : Int32) &&& 31)).toInt8.toInt32)), (.int (((own_lo x2) >>> ((0 : Int32) &&& 31)).toInt8.toInt32)), (.int (((own_lo x2) >>> ((8 : Int32) &&& 31)).toInt8.toInt32))] iZ) (z3 : Sta Z Z.heap s0 s3 "I" iZ) (z4 : Sta Z Z.heap s0 s4 "I" (.int 8)) (hu1 : own_cp x1) (hc2 : ¬ (x1 < (65536 : Int32))) :
    CtrN l Z mn28 jdk_52_method_8_code 3 (some .int) [] (⟨2, 0, 0, 30⟩ : Room) #[(.ref a1), iZ, (.int 4)] h0 [] (fun v h => v = some (.int x1)) := by
  refine CtrN.intro (L0 := #[vr a1, vi 0, vi 4]) (plainFor_of_name pn5) O0 (own_entry rfl) ?_
  intro p e s m below meth c T0 hy hml hret hlk hnm W0
  refine o_aloadN W0 1 (hb hy d27_0) rfl rfl rfl <| o_iloadN W0 2 (hb hy d27_1) rfl rfl <| o_iloadN W0 3 (hb hy d27_2) rfl rfl <| o_iconst W0 (v := 0) 4 (hb hy d27_3) rfl rfl ?_
  refine o_staticC W0 (w121 hw) (w122 hw) (w60 hw) (w123 hw) (by decide) (rm177 l hw a1 z0 x1 x2 h0 W0.old z1 z2 z3 z4 hu1 hc2) 0 0 0 (by decide) (by rw [hml]; rfl) (lenOf pd19 rfl) [] rfl rfl 7 (hb hy d27_4) rfl rfl rfl all0 tri ?_
  intro v3 T3 h3 lo3 W3 K3 q3
  obtain rfl := q3.2.2
  show Gl _ _ _ _ _ _ _ _ [(.int x1)]
  exact o_retI W3 hlk hret (hb hy d27_7) (by decide) (by decide) rfl
theorem rm179 (l : Launch) {Z a0} (hw : HW Z a0) (gCS : Int32) (gF : Value) (a1 a2 : Addr) (z0 : ClassId) (x1 x2 : Int32) (h0 : Heap) (O0 : Old Z Z.heap.size h0) (z1 : Exa Z h0 a1 s1) (SgCS : Sta Z Z.heap s1 s5 "Z" (.int gCS)) (NgCS : ¬ (gCS = (0 : Int32))) (z2 : Fld Z h0 a1 s1 "coder" "B" (.int 1)) (z3 : Fld Z h0 a1 s1 "value" "[B" (.ref a2)) (z4 : Arv Z h0 a2 z0 .byte 8 [(.int (((own_hi x1) >>> ((0 : Int32) &&& 31)).toInt8.toInt32)), (.int (((own_hi x1) >>> ((8 : Int32) &&& 31)).toInt8.toInt32)), (.int (((own_lo x1) >>> ((0 : Int32) &&& 31)).toInt8.toInt32)), (.int (((own_lo x1) >>> ((8 : Int32) &&& 31)).toInt8.toInt32)), (.int (((own_hi x2) >>> ((0 : Int32) &&& 31)).toInt8.toInt32)), (.int (((own_hi x2) >>> ((8 : Int32) &&& 31)).toInt8.toInt32)), (.int (((own_lo x2) >>> ((0 : Int32) &&& 31)).toInt8.toInt32)), (.int (((own_lo x2) >>> ((8 : Int32) &&& 31)).toInt8.toInt32))] iZ) (SgF : Sta Z Z.heap s6 s7 s8 gF) (NgF : gF.isRef = true) (z5 : Sta Z Z.heap s0 s2 "Z" (.int 1)) (z6 : Sta Z Z.heap s0 s3 "I" iZ) (z7 : Sta Z Z.heap s0 s4 "I" (.int 8)) (hu9 : own_cp x1) (hc10 : ¬ (x1 < (65536 : Int32))) :
    CtrN l Z mn1 jdk_42_method_57_code 3 (some .int) [] (⟨6, 0, 0, 90⟩ : Room) #[(.ref a1), iZ] h0 [] (fun v h => v = some (.int x1)) := by
  refine CtrN.intro (L0 := #[vr a1, vi 0, un]) (plainFor_of_name pn2) O0 (own_entry rfl) ?_
  intro p e s m below meth c T0 hy hml hret hlk hnm W0
  refine o_aloadN W0 1 (hb hy d15_0) rfl rfl rfl ?_
  refine o_virtualC W0 (w73 hw) (w74 hw) (o_nf W0 rfl (w76 hw)) (w76 hw) (w75 hw) (by decide) z1 (w77 hw) (w12 hw) (rm39 l hw gCS a1 h0 W0.old SgCS NgCS z2) 0 0 0 (by decide) (by rw [hml]; rfl) (lenOf pd12 rfl) [] rfl rfl 4 (hb hy d15_1) rfl rfl rfl all0 tri ?_
  intro v1 T1 h1 lo1 W1 K1 q1
  obtain rfl := q1.2.2
  show Gl _ _ _ _ _ _ _ _ [iZ]
  refine o_ifY W1 27 (hb hy d15_4) (XT.i0_eq_t (by decide)) (by decide) rfl <| o_aloadN W1 28 (hb hy d15_27) rfl rfl rfl ?_
  have c2 := (z3.keep K1 nin0)
  refine o_getF W1 (w30 hw) Via.refl c2 31 (hb hy d15_28) rfl ?_
  intro T3 W3
  have c4 := (z4.keep K1 nin0)
  refine o_len W3 c4 32 (hb hy d15_31) rfl <| o_iconst W3 (v := 1) 33 (hb hy d15_32) rfl rfl <| o_ishr W3 (v := 4) 34 (hb hy d15_33) (by decide) rfl <| o_istoreN W3 (L' := #[vr a1, vi 0, vi 4]) 35 (hb hy d15_34) rfl rfl <| o_iloadN W3 36 (hb hy d15_35) rfl rfl <| o_iloadN W3 37 (hb hy d15_36) rfl rfl ?_
  refine o_staticC W3 (w78 hw) (w79 hw) (w12 hw) (w80 hw) (by decide) (rm175 l hw gF h1 W3.old SgF NgF) 0 0 0 (by decide) (by rw [hml]; rfl) (lenOf pd14 rfl) [] rfl rfl 40 (hb hy d15_37) rfl rfl rfl all0 tri ?_
  intro v5 T5 h5 lo5 W5 K5 q5
  obtain rfl := q5.2.2
  show Gl _ _ _ _ _ _ _ _ []
  refine o_aloadN W5 41 (hb hy d15_40) rfl rfl rfl ?_
  have c6 := (c2.keep K5 nin0)
  refine o_getF W5 (w30 hw) Via.refl c6 44 (hb hy d15_41) rfl ?_
  intro T7 W7
  refine o_iloadN W7 45 (hb hy d15_44) rfl rfl <| o_iloadN W7 46 (hb hy d15_45) rfl rfl ?_
  have c8 := (c4.keep K5 nin0)
  refine o_staticC W7 (w118 hw) (w119 hw) (w60 hw) (w120 hw) (by decide) (rm178 l hw a2 z0 x1 x2 h5 W7.old z5 c8 z6 z7 hu9 hc10) 0 0 0 (by decide) (by rw [hml]; rfl) (lenOf pd20 rfl) [] rfl rfl 49 (hb hy d15_46) rfl rfl rfl all0 tri ?_
  intro v11 T11 h11 lo11 W11 K11 q11
  obtain rfl := q11.2.2
  show Gl _ _ _ _ _ _ _ _ [(.int x1)]
  exact o_retI W11 hlk hret (hb hy d15_49) (by decide) (by decide) rfl
theorem rm180 (l : Launch) {Z a0} (hw : HW Z a0)  (h0 : Heap) (O0 : Old Z Z.heap.size h0) :
    CtrN l Z mn20 jdk_41_method_11_code 3 (some .int) [] (⟨0, 0, 0, 0⟩ : Room) #[(.int 2), (.int 4), .null] h0 [] (fun v h => v = some (.int 2)) := by
  refine CtrN.intro (L0 := #[vi 2, vi 4, .val .null]) (plainFor_of_name pn6) O0 (own_entry rfl) ?_
  intro p e s m below meth c T0 hy hml hret hlk hnm W0
  refine o_iloadN W0 1 (hb hy d18_0) rfl rfl <| o_ifN W0 4 (hb hy d18_1) (XT.i0_lt_f (by decide)) rfl <| o_iloadN W0 5 (hb hy d18_4) rfl rfl <| o_iloadN W0 6 (hb hy d18_5) rfl rfl <| o_icmpY W0 16 (hb hy d18_6) (XT.ii_lt_t (by decide)) (by decide) rfl <| o_iloadN W0 17 (hb hy d18_16) rfl rfl ?_
  exact o_retI W0 hlk hret (hb hy d18_17) (by decide) (by decide) rfl
theorem rm181 (l : Launch) {Z a0} (hw : HW Z a0) (a1 : Addr) (h0 : Heap) (O0 : Old Z Z.heap.size h0) :
    CtrN l Z mn20 jdk_41_method_11_code 3 (some .int) [] (⟨0, 0, 0, 0⟩ : Room) #[(.int 2), (.int 4), (.ref a1)] h0 [] (fun v h => v = some (.int 2)) := by
  refine CtrN.intro (L0 := #[vi 2, vi 4, vr a1]) (plainFor_of_name pn6) O0 (own_entry rfl) ?_
  intro p e s m below meth c T0 hy hml hret hlk hnm W0
  refine o_iloadN W0 1 (hb hy d18_0) rfl rfl <| o_ifN W0 4 (hb hy d18_1) (XT.i0_lt_f (by decide)) rfl <| o_iloadN W0 5 (hb hy d18_4) rfl rfl <| o_iloadN W0 6 (hb hy d18_5) rfl rfl <| o_icmpY W0 16 (hb hy d18_6) (XT.ii_lt_t (by decide)) (by decide) rfl <| o_iloadN W0 17 (hb hy d18_16) rfl rfl ?_
  exact o_retI W0 hlk hret (hb hy d18_17) (by decide) (by decide) rfl
theorem rm182 (l : Launch) {Z a0} (hw : HW Z a0) (gF : Value) (h0 : Heap) (O0 : Old Z Z.heap.size h0) (SgF : Sta Z Z.heap s6 s7 s8 gF) (NgF : gF.isRef = true) :
    CtrN l Z mn21 jdk_42_method_155_code 2 none [] (⟨1, 0, 0, 14⟩ : Room) #[(.int 2), (.int 4)] h0 [] (fun v h => v = none) := by
  refine CtrN.intro (L0 := #[vi 2, vi 4]) (plainFor_of_name pn2) O0 (own_entry rfl) ?_
  intro p e s m below meth c T0 hy hml hret hlk hnm W0
  refine o_iloadN W0 1 (hb hy d17_0) rfl rfl <| o_iloadN W0 2 (hb hy d17_1) rfl rfl ?_
  rcases ref_cases NgF with rfl | ⟨aF1, rfl⟩
  · refine o_getS W0 (w81 hw) Via.refl (SgF.ext W0.ox) 5 (hb hy d17_2) rfl ?_
    intro T2 W2
    refine o_staticC W2 (w83 hw) (w84 hw) (w82 hw) (w85 hw) (by decide) (rm180 l hw  h0 W2.old ) 0 0 0 (by decide) (by rw [hml]; rfl) (lenOf pd13 rfl) [] rfl rfl 8 (hb hy d17_5) rfl rfl rfl all0 tri ?_
    intro v3 T3 h3 lo3 W3 K3 q3
    obtain rfl := q3.2.2
    show Gl _ _ _ _ _ _ _ _ [(.int 2)]
    refine o_pop W3 9 (hb hy d17_8) rfl rfl ?_
    exact o_ret0 W3 hlk hret (hb hy d17_9) (by decide) (by decide) rfl
  · refine o_getS W0 (w81 hw) Via.refl (SgF.ext W0.ox) 5 (hb hy d17_2) rfl ?_
    intro T4 W4
    refine o_staticC W4 (w83 hw) (w84 hw) (w82 hw) (w85 hw) (by decide) (rm181 l hw aF1 h0 W4.old ) 0 0 0 (by decide) (by rw [hml]; rfl) (lenOf pd13 rfl) [] rfl rfl 8 (hb hy d17_5) rfl rfl rfl all0 tri ?_
    intro v5 T5 h5 lo5 W5 K5 q5
    obtain rfl := q5.2.2
    show Gl _ _ _ _ _ _ _ _ [(.int 2)]
    refine o_pop W5 9 (hb hy d17_8) rfl rfl ?_
    exact o_ret0 W5 hlk hret (hb hy d17_9) (by decide) (by decide) rfl
theorem rm183 (l : Launch) {Z a0} (hw : HW Z a0) (a1 : Addr) (z0 : ClassId) (x1 x2 : Int32) (h0 : Heap) (O0 : Old Z Z.heap.size h0) (z1 : Sta Z Z.heap s0 s2 "Z" (.int 1)) (z2 : Arv Z h0 a1 z0 .byte 8 [(.int (((own_hi x1) >>> ((0 : Int32) &&& 31)).toInt8.toInt32)), (.int (((own_hi x1) >>> ((8 : Int32) &&& 31)).toInt8.toInt32)), (.int (((own_lo x1) >>> ((0 : Int32) &&& 31)).toInt8.toInt32)), (.int (((own_lo x1) >>> ((8 : Int32) &&& 31)).toInt8.toInt32)), (.int (((own_hi x2) >>> ((0 : Int32) &&& 31)).toInt8.toInt32)), (.int (((own_hi x2) >>> ((8 : Int32) &&& 31)).toInt8.toInt32)), (.int (((own_lo x2) >>> ((0 : Int32) &&& 31)).toInt8.toInt32)), (.int (((own_lo x2) >>> ((8 : Int32) &&& 31)).toInt8.toInt32))] iZ) (z3 : Sta Z Z.heap s0 s3 "I" iZ) (z4 : Sta Z Z.heap s0 s4 "I" (.int 8)) :
    CtrN l Z mn26 jdk_52_method_5_code 2 (some .char) [] (⟨0, 0, 0, 0⟩ : Room) #[(.ref a1), (.int 2)] h0 [] (fun v h => v = some (.int (own_hi x2))) := by
  refine CtrN.intro (L0 := #[vr a1, vi 2]) (plainFor_of_name pn5) O0 (own_entry rfl) ?_
  intro p e s m below meth c T0 hy hml hret hlk hnm W0
  refine o_getS W0 (w107 hw) Via.refl (z1.ext W0.ox) 3 (hb hy d25_0) rfl ?_
  intro T1 W1
  refine o_ifY W1 28 (hb hy d25_3) (XT.i0_ne_t (by decide)) (by decide) rfl <| o_iloadN W1 29 (hb hy d25_28) rfl rfl <| o_iconst W1 (v := 1) 30 (hb hy d25_29) rfl rfl <| o_ishl W1 (v := 4) 31 (hb hy d25_30) (by decide) rfl <| o_istoreN W1 (L' := #[vr a1, vi 4]) 32 (hb hy d25_31) rfl rfl <| o_aloadN W1 33 (hb hy d25_32) rfl rfl rfl ?_
  refine o_iloadN W1 34 (hb hy d25_33) rfl rfl <| o_iinc W1 (v := 5) (L' := #[vr a1, vi 5]) 37 (hb hy d25_34) rfl (by decide) rfl rfl <| o_baload W1 z2 (x := (((own_hi x2) >>> ((0 : Int32) &&& 31)).toInt8.toInt32)) (i := 4) (by decide) (by decide) (by decide) rfl 38 (hb hy d25_37) rfl <| o_sipush W1 (v := 255) 41 (hb hy d25_38) (by decide) rfl <| o_iand W1 (v := ((((own_hi x2) >>> ((0 : Int32) &&& 31)).toInt8.toInt32) &&& 255)) 42 (hb hy d25_41) rfl rfl ?_
  refine o_getS W1 (w108 hw) Via.refl (z3.ext W1.ox) 45 (hb hy d25_42) rfl ?_
  intro T2 W2
  refine o_ishl W2 (v := (((((own_hi x2) >>> ((0 : Int32) &&& 31)).toInt8.toInt32) &&& 255) <<< ((0 : Int32) &&& 31))) 46 (hb hy d25_45) rfl rfl <| o_aloadN W2 47 (hb hy d25_46) rfl rfl rfl <| o_iloadN W2 48 (hb hy d25_47) rfl rfl <| o_baload W2 z2 (x := (((own_hi x2) >>> ((8 : Int32) &&& 31)).toInt8.toInt32)) (i := 5) (by decide) (by decide) (by decide) rfl 49 (hb hy d25_48) rfl <| o_sipush W2 (v := 255) 52 (hb hy d25_49) (by decide) rfl <| o_iand W2 (v := ((((own_hi x2) >>> ((8 : Int32) &&& 31)).toInt8.toInt32) &&& 255)) 53 (hb hy d25_52) rfl rfl ?_
  refine o_getS W2 (w109 hw) Via.refl (z4.ext W2.ox) 56 (hb hy d25_53) rfl ?_
  intro T3 W3
  refine o_ishl W3 (v := (((((own_hi x2) >>> ((8 : Int32) &&& 31)).toInt8.toInt32) &&& 255) <<< ((8 : Int32) &&& 31))) 57 (hb hy d25_56) rfl rfl <| o_ior W3 (v := ((((((own_hi x2) >>> ((0 : Int32) &&& 31)).toInt8.toInt32) &&& 255) <<< ((0 : Int32) &&& 31)) ||| (((((own_hi x2) >>> ((8 : Int32) &&& 31)).toInt8.toInt32) &&& 255) <<< ((8 : Int32) &&& 31)))) 58 (hb hy d25_57) rfl rfl <| o_i2c W3 (v := (own_hi x2)) 59 (hb hy d25_58) (own_join (own_hic _)) rfl ?_
  exact o_retN W3 hlk (t := .char) hret (by simp) (z' := (own_hi x2)) (own_i2cc (own_hic _)) (hb hy d25_59) (by decide) (by decide) rfl
theorem rm184 (l : Launch) {Z a0} (hw : HW Z a0) (a1 : Addr) (z0 : ClassId) (x1 x2 : Int32) (h0 : Heap) (O0 : Old Z Z.heap.size h0) (z1 : Sta Z Z.heap s0 s2 "Z" (.int 1)) (z2 : Arv Z h0 a1 z0 .byte 8 [(.int (((own_hi x1) >>> ((0 : Int32) &&& 31)).toInt8.toInt32)), (.int (((own_hi x1) >>> ((8 : Int32) &&& 31)).toInt8.toInt32)), (.int (((own_lo x1) >>> ((0 : Int32) &&& 31)).toInt8.toInt32)), (.int (((own_lo x1) >>> ((8 : Int32) &&& 31)).toInt8.toInt32)), (.int (((own_hi x2) >>> ((0 : Int32) &&& 31)).toInt8.toInt32)), (.int (((own_hi x2) >>> ((8 : Int32) &&& 31)).toInt8.toInt32)), (.int (((own_lo x2) >>> ((0 : Int32) &&& 31)).toInt8.toInt32)), (.int (((own_lo x2) >>> ((8 : Int32) &&& 31)).toInt8.toInt32))] iZ) (z3 : Sta Z Z.heap s0 s3 "I" iZ) (z4 : Sta Z Z.heap s0 s4 "I" (.int 8)) :
    CtrN l Z mn26 jdk_52_method_5_code 2 (some .char) [] (⟨0, 0, 0, 0⟩ : Room) #[(.ref a1), (.int 3)] h0 [] (fun v h => v = some (.int (own_lo x2))) := by
  refine CtrN.intro (L0 := #[vr a1, vi 3]) (plainFor_of_name pn5) O0 (own_entry rfl) ?_
  intro p e s m below meth c T0 hy hml hret hlk hnm W0
  refine o_getS W0 (w107 hw) Via.refl (z1.ext W0.ox) 3 (hb hy d25_0) rfl ?_
  intro T1 W1
  refine o_ifY W1 28 (hb hy d25_3) (XT.i0_ne_t (by decide)) (by decide) rfl <| o_iloadN W1 29 (hb hy d25_28) rfl rfl <| o_iconst W1 (v := 1) 30 (hb hy d25_29) rfl rfl <| o_ishl W1 (v := 6) 31 (hb hy d25_30) (by decide) rfl <| o_istoreN W1 (L' := #[vr a1, vi 6]) 32 (hb hy d25_31) rfl rfl <| o_aloadN W1 33 (hb hy d25_32) rfl rfl rfl ?_
  refine o_iloadN W1 34 (hb hy d25_33) rfl rfl <| o_iinc W1 (v := 7) (L' := #[vr a1, vi 7]) 37 (hb hy d25_34) rfl (by decide) rfl rfl <| o_baload W1 z2 (x := (((own_lo x2) >>> ((0 : Int32) &&& 31)).toInt8.toInt32)) (i := 6) (by decide) (by decide) (by decide) rfl 38 (hb hy d25_37) rfl <| o_sipush W1 (v := 255) 41 (hb hy d25_38) (by decide) rfl <| o_iand W1 (v := ((((own_lo x2) >>> ((0 : Int32) &&& 31)).toInt8.toInt32) &&& 255)) 42 (hb hy d25_41) rfl rfl ?_
  refine o_getS W1 (w108 hw) Via.refl (z3.ext W1.ox) 45 (hb hy d25_42) rfl ?_
  intro T2 W2
  refine o_ishl W2 (v := (((((own_lo x2) >>> ((0 : Int32) &&& 31)).toInt8.toInt32) &&& 255) <<< ((0 : Int32) &&& 31))) 46 (hb hy d25_45) rfl rfl <| o_aloadN W2 47 (hb hy d25_46) rfl rfl rfl <| o_iloadN W2 48 (hb hy d25_47) rfl rfl <| o_baload W2 z2 (x := (((own_lo x2) >>> ((8 : Int32) &&& 31)).toInt8.toInt32)) (i := 7) (by decide) (by decide) (by decide) rfl 49 (hb hy d25_48) rfl <| o_sipush W2 (v := 255) 52 (hb hy d25_49) (by decide) rfl <| o_iand W2 (v := ((((own_lo x2) >>> ((8 : Int32) &&& 31)).toInt8.toInt32) &&& 255)) 53 (hb hy d25_52) rfl rfl ?_
  refine o_getS W2 (w109 hw) Via.refl (z4.ext W2.ox) 56 (hb hy d25_53) rfl ?_
  intro T3 W3
  refine o_ishl W3 (v := (((((own_lo x2) >>> ((8 : Int32) &&& 31)).toInt8.toInt32) &&& 255) <<< ((8 : Int32) &&& 31))) 57 (hb hy d25_56) rfl rfl <| o_ior W3 (v := ((((((own_lo x2) >>> ((0 : Int32) &&& 31)).toInt8.toInt32) &&& 255) <<< ((0 : Int32) &&& 31)) ||| (((((own_lo x2) >>> ((8 : Int32) &&& 31)).toInt8.toInt32) &&& 255) <<< ((8 : Int32) &&& 31)))) 58 (hb hy d25_57) rfl rfl <| o_i2c W3 (v := (own_lo x2)) 59 (hb hy d25_58) (own_join (own_loc _)) rfl ?_
  exact o_retN W3 hlk (t := .char) hret (by simp) (z' := (own_lo x2)) (own_i2cc (own_loc _)) (hb hy d25_59) (by decide) (by decide) rfl
theorem rm185 (l : Launch) {Z a0} (hw : HW Z a0) (a1 : Addr) (z0 : ClassId) (x1 x2 : Int32) (h0 : Heap) (O0 : Old Z Z.heap.size h0) (z1 : Sta Z Z.heap s0 s2 "Z" (.int 1)) (z2 : Arv Z h0 a1 z0 .byte 8 [(.int (((own_hi x1) >>> ((0 : Int32) &&& 31)).toInt8.toInt32)), (.int (((own_hi x1) >>> ((8 : Int32) &&& 31)).toInt8.toInt32)), (.int (((own_lo x1) >>> ((0 : Int32) &&& 31)).toInt8.toInt32)), (.int (((own_lo x1) >>> ((8 : Int32) &&& 31)).toInt8.toInt32)), (.int (((own_hi x2) >>> ((0 : Int32) &&& 31)).toInt8.toInt32)), (.int (((own_hi x2) >>> ((8 : Int32) &&& 31)).toInt8.toInt32)), (.int (((own_lo x2) >>> ((0 : Int32) &&& 31)).toInt8.toInt32)), (.int (((own_lo x2) >>> ((8 : Int32) &&& 31)).toInt8.toInt32))] iZ) (z3 : Sta Z Z.heap s0 s3 "I" iZ) (z4 : Sta Z Z.heap s0 s4 "I" (.int 8)) (hu4 : own_cp x2) (hc5 : ¬ (x2 < (65536 : Int32))) :
    CtrN l Z mn27 jdk_52_method_7_code 6 (some .int) [] (⟨1, 0, 0, 13⟩ : Room) #[(.ref a1), (.int 2), (.int 4), iZ] h0 [] (fun v h => v = some (.int x2)) := by
  refine CtrN.intro (L0 := #[vr a1, vi 2, vi 4, vi 0, un, un]) (plainFor_of_name pn5) O0 (own_entry rfl) ?_
  intro p e s m below meth c T0 hy hml hret hlk hnm W0
  refine o_getS W0 (w107 hw) Via.refl (z1.ext W0.ox) 3 (hb hy d28_0) rfl ?_
  intro T1 W1
  refine o_ifY W1 19 (hb hy d28_3) (XT.i0_ne_t (by decide)) (by decide) rfl <| o_iloadN W1 20 (hb hy d28_19) rfl rfl <| o_ifY W1 28 (hb hy d28_20) (XT.i0_eq_t (by decide)) (by decide) rfl <| o_aloadN W1 29 (hb hy d28_28) rfl rfl rfl <| o_iloadN W1 30 (hb hy d28_29) rfl rfl ?_
  refine o_staticC W1 (w110 hw) (w111 hw) (w60 hw) (w112 hw) (by decide) (rm183 l hw a1 z0 x1 x2 h0 W1.old z1 z2 z3 z4) 0 0 0 (by decide) (by rw [hml]; rfl) (lenOf pd17 rfl) [] rfl rfl 33 (hb hy d28_30) rfl rfl rfl all0 tri ?_
  intro v2 T2 h2 lo2 W2 K2 q2
  obtain rfl := q2.2.2
  show Gl _ _ _ _ _ _ _ _ [(.int (own_hi x2))]
  refine o_istore W2 (L' := #[vr a1, vi 2, vi 4, vi 0, vi (own_hi x2), un]) 35 (hb hy d28_33) rfl rfl <| o_iload W2 37 (hb hy d28_35) rfl rfl ?_
  refine o_staticC W2 (w124 hw) (w125 hw) (w115 hw) (w126 hw) (by decide) (rm4 l hw (own_hi x2) h2 W2.old ) 0 0 0 (by decide) (by rw [hml]; rfl) (lenOf pd18 rfl) [] rfl rfl 40 (hb hy d28_37) rfl rfl rfl all0 tri ?_
  intro v3 T3 h3 lo3 W3 K3 q3
  obtain rfl := q3.2.2
  show Gl _ _ _ _ _ _ _ _ [(.int (own_hs (own_hi x2)))]
  refine o_ifN W3 43 (hb hy d28_40) (XT.i0_eq_f (own_hsY (own_spI hu4 hc5))) rfl <| o_iinc W3 (v := 3) (L' := #[vr a1, vi 3, vi 4, vi 0, vi (own_hi x2), un]) 46 (hb hy d28_43) rfl (by decide) rfl rfl <| o_iloadN W3 47 (hb hy d28_46) rfl rfl <| o_iloadN W3 48 (hb hy d28_47) rfl rfl <| o_icmpN W3 51 (hb hy d28_48) (XT.ii_ge_f (by decide)) rfl <| o_iloadN W3 52 (hb hy d28_51) rfl rfl ?_
  refine o_ifY W3 60 (hb hy d28_52) (XT.i0_eq_t (by decide)) (by decide) rfl <| o_aloadN W3 61 (hb hy d28_60) rfl rfl rfl <| o_iloadN W3 62 (hb hy d28_61) rfl rfl ?_
  have c6 := ((z2.keep K2 nin0).keep K3 nin0)
  refine o_staticC W3 (w110 hw) (w111 hw) (w60 hw) (w112 hw) (by decide) (rm184 l hw a1 z0 x1 x2 h3 W3.old z1 c6 z3 z4) 0 0 0 (by decide) (by rw [hml]; rfl) (lenOf pd17 rfl) [] rfl rfl 65 (hb hy d28_62) rfl rfl rfl all0 tri ?_
  intro v7 T7 h7 lo7 W7 K7 q7
  obtain rfl := q7.2.2
  show Gl _ _ _ _ _ _ _ _ [(.int (own_lo x2))]
  refine o_istore W7 (L' := #[vr a1, vi 3, vi 4, vi 0, vi (own_hi x2), vi (own_lo x2)]) 67 (hb hy d28_65) rfl rfl <| o_iload W7 69 (hb hy d28_67) rfl rfl ?_
  refine o_staticC W7 (w129 hw) (w130 hw) (w115 hw) (w131 hw) (by decide) (rm5 l hw (own_lo x2) h7 W7.old ) 0 0 0 (by decide) (by rw [hml]; rfl) (lenOf pd18 rfl) [] rfl rfl 72 (hb hy d28_69) rfl rfl rfl all0 tri ?_
  intro v8 T8 h8 lo8 W8 K8 q8
  obtain rfl := q8.2.2
  show Gl _ _ _ _ _ _ _ _ [(.int (own_ls (own_lo x2)))]
  refine o_ifN W8 75 (hb hy d28_72) (XT.i0_eq_f (own_lsY (own_spI hu4 hc5))) rfl <| o_iload W8 77 (hb hy d28_75) rfl rfl <| o_iload W8 79 (hb hy d28_77) rfl rfl ?_
  refine o_staticC W8 (w133 hw) (w134 hw) (w115 hw) (w135 hw) (by decide) (rm61 l hw x2 h8 W8.old hu4 hc5) 0 0 0 (by decide) (by rw [hml]; rfl) (lenOf pd22 rfl) [] rfl rfl 82 (hb hy d28_79) rfl rfl rfl all0 tri ?_
  intro v9 T9 h9 lo9 W9 K9 q9
  obtain rfl := q9.2.2
  show Gl _ _ _ _ _ _ _ _ [(.int x2)]
  exact o_retI W9 hlk hret (hb hy d28_82) (by decide) (by decide) rfl
theorem rm186 (l : Launch) {Z a0} (hw : HW Z a0) (a1 : Addr) (z0 : ClassId) (x1 x2 : Int32) (h0 : Heap) (O0 : Old Z Z.heap.size h0) (z1 : Sta Z Z.heap s0 s2 "Z" (.int 1)) (z2 : Arv Z h0 a1 z0 .byte 8 [(.int (((own_hi x1) >>> ((0 : Int32) &&& 31)).toInt8.toInt32)), (.int (((own_hi x1) >>> ((8 : Int32) &&& 31)).toInt8.toInt32)), (.int (((own_lo x1) >>> ((0 : Int32) &&& 31)).toInt8.toInt32)), (.int (((own_lo x1) >>> ((8 : Int32) &&& 31)).toInt8.toInt32)), (.int (((own_hi x2) >>> ((0 : Int32) &&& 31)).toInt8.toInt32)), (.int (((own_hi x2) >>> ((8 : Int32) &&& 31)).toInt8.toInt32)), (.int (((own_lo x2) >>> ((0 : Int32) &&& 31)).toInt8.toInt32)), (.int (((own_lo x2) >>> ((8 : Int32) &&& 31)).toInt8.toInt32))] iZ) (z3 : Sta Z Z.heap s0 s3 "I" iZ) (z4 : Sta Z Z.heap s0 s4 "I" (.int 8)) (hu1 : own_cp x2) (hc2 : ¬ (x2 < (65536 : Int32))) :
    CtrN l Z mn28 jdk_52_method_8_code 3 (some .int) [] (⟨2, 0, 0, 30⟩ : Room) #[(.ref a1), (.int 2), (.int 4)] h0 [] (fun v h => v = some (.int x2)) := by
  refine CtrN.intro (L0 := #[vr a1, vi 2, vi 4]) (plainFor_of_name pn5) O0 (own_entry rfl) ?_
  intro p e s m below meth c T0 hy hml hret hlk hnm W0
  refine o_aloadN W0 1 (hb hy d27_0) rfl rfl rfl <| o_iloadN W0 2 (hb hy d27_1) rfl rfl <| o_iloadN W0 3 (hb hy d27_2) rfl rfl <| o_iconst W0 (v := 0) 4 (hb hy d27_3) rfl rfl ?_
  refine o_staticC W0 (w121 hw) (w122 hw) (w60 hw) (w123 hw) (by decide) (rm185 l hw a1 z0 x1 x2 h0 W0.old z1 z2 z3 z4 hu1 hc2) 0 0 0 (by decide) (by rw [hml]; rfl) (lenOf pd19 rfl) [] rfl rfl 7 (hb hy d27_4) rfl rfl rfl all0 tri ?_
  intro v3 T3 h3 lo3 W3 K3 q3
  obtain rfl := q3.2.2
  show Gl _ _ _ _ _ _ _ _ [(.int x2)]
  exact o_retI W3 hlk hret (hb hy d27_7) (by decide) (by decide) rfl
theorem rm187 (l : Launch) {Z a0} (hw : HW Z a0) (gCS : Int32) (gF : Value) (a1 a2 : Addr) (z0 : ClassId) (x1 x2 : Int32) (h0 : Heap) (O0 : Old Z Z.heap.size h0) (z1 : Exa Z h0 a1 s1) (SgCS : Sta Z Z.heap s1 s5 "Z" (.int gCS)) (NgCS : ¬ (gCS = (0 : Int32))) (z2 : Fld Z h0 a1 s1 "coder" "B" (.int 1)) (z3 : Fld Z h0 a1 s1 "value" "[B" (.ref a2)) (z4 : Arv Z h0 a2 z0 .byte 8 [(.int (((own_hi x1) >>> ((0 : Int32) &&& 31)).toInt8.toInt32)), (.int (((own_hi x1) >>> ((8 : Int32) &&& 31)).toInt8.toInt32)), (.int (((own_lo x1) >>> ((0 : Int32) &&& 31)).toInt8.toInt32)), (.int (((own_lo x1) >>> ((8 : Int32) &&& 31)).toInt8.toInt32)), (.int (((own_hi x2) >>> ((0 : Int32) &&& 31)).toInt8.toInt32)), (.int (((own_hi x2) >>> ((8 : Int32) &&& 31)).toInt8.toInt32)), (.int (((own_lo x2) >>> ((0 : Int32) &&& 31)).toInt8.toInt32)), (.int (((own_lo x2) >>> ((8 : Int32) &&& 31)).toInt8.toInt32))] iZ) (SgF : Sta Z Z.heap s6 s7 s8 gF) (NgF : gF.isRef = true) (z5 : Sta Z Z.heap s0 s2 "Z" (.int 1)) (z6 : Sta Z Z.heap s0 s3 "I" iZ) (z7 : Sta Z Z.heap s0 s4 "I" (.int 8)) (hu9 : own_cp x2) (hc10 : ¬ (x2 < (65536 : Int32))) :
    CtrN l Z mn1 jdk_42_method_57_code 3 (some .int) [] (⟨6, 0, 0, 90⟩ : Room) #[(.ref a1), (.int 2)] h0 [] (fun v h => v = some (.int x2)) := by
  refine CtrN.intro (L0 := #[vr a1, vi 2, un]) (plainFor_of_name pn2) O0 (own_entry rfl) ?_
  intro p e s m below meth c T0 hy hml hret hlk hnm W0
  refine o_aloadN W0 1 (hb hy d15_0) rfl rfl rfl ?_
  refine o_virtualC W0 (w73 hw) (w74 hw) (o_nf W0 rfl (w76 hw)) (w76 hw) (w75 hw) (by decide) z1 (w77 hw) (w12 hw) (rm39 l hw gCS a1 h0 W0.old SgCS NgCS z2) 0 0 0 (by decide) (by rw [hml]; rfl) (lenOf pd12 rfl) [] rfl rfl 4 (hb hy d15_1) rfl rfl rfl all0 tri ?_
  intro v1 T1 h1 lo1 W1 K1 q1
  obtain rfl := q1.2.2
  show Gl _ _ _ _ _ _ _ _ [iZ]
  refine o_ifY W1 27 (hb hy d15_4) (XT.i0_eq_t (by decide)) (by decide) rfl <| o_aloadN W1 28 (hb hy d15_27) rfl rfl rfl ?_
  have c2 := (z3.keep K1 nin0)
  refine o_getF W1 (w30 hw) Via.refl c2 31 (hb hy d15_28) rfl ?_
  intro T3 W3
  have c4 := (z4.keep K1 nin0)
  refine o_len W3 c4 32 (hb hy d15_31) rfl <| o_iconst W3 (v := 1) 33 (hb hy d15_32) rfl rfl <| o_ishr W3 (v := 4) 34 (hb hy d15_33) (by decide) rfl <| o_istoreN W3 (L' := #[vr a1, vi 2, vi 4]) 35 (hb hy d15_34) rfl rfl <| o_iloadN W3 36 (hb hy d15_35) rfl rfl <| o_iloadN W3 37 (hb hy d15_36) rfl rfl ?_
  refine o_staticC W3 (w78 hw) (w79 hw) (w12 hw) (w80 hw) (by decide) (rm182 l hw gF h1 W3.old SgF NgF) 0 0 0 (by decide) (by rw [hml]; rfl) (lenOf pd14 rfl) [] rfl rfl 40 (hb hy d15_37) rfl rfl rfl all0 tri ?_
  intro v5 T5 h5 lo5 W5 K5 q5
  obtain rfl := q5.2.2
  show Gl _ _ _ _ _ _ _ _ []
  refine o_aloadN W5 41 (hb hy d15_40) rfl rfl rfl ?_
  have c6 := (c2.keep K5 nin0)
  refine o_getF W5 (w30 hw) Via.refl c6 44 (hb hy d15_41) rfl ?_
  intro T7 W7
  refine o_iloadN W7 45 (hb hy d15_44) rfl rfl <| o_iloadN W7 46 (hb hy d15_45) rfl rfl ?_
  have c8 := (c4.keep K5 nin0)
  refine o_staticC W7 (w118 hw) (w119 hw) (w60 hw) (w120 hw) (by decide) (rm186 l hw a2 z0 x1 x2 h5 W7.old z5 c8 z6 z7 hu9 hc10) 0 0 0 (by decide) (by rw [hml]; rfl) (lenOf pd20 rfl) [] rfl rfl 49 (hb hy d15_46) rfl rfl rfl all0 tri ?_
  intro v11 T11 h11 lo11 W11 K11 q11
  obtain rfl := q11.2.2
  show Gl _ _ _ _ _ _ _ _ [(.int x2)]
  exact o_retI W11 hlk hret (hb hy d15_49) (by decide) (by decide) rfl
theorem rm188 (l : Launch) {Z a0} (hw : HW Z a0) (gCS : Int32) (gF : Value) (x1 x2 : Int32) (h0 : Heap) (O0 : Old Z Z.heap.size h0) (hu5 : own_cp x1) (hu7 : own_cp x2) (SgCS : Sta Z Z.heap s1 s5 "Z" (.int gCS)) (NgCS : ¬ (gCS = (0 : Int32))) (SgF : Sta Z Z.heap s6 s7 s8 gF) (NgF : gF.isRef = true) (z0 : Sta Z Z.heap s0 s2 "Z" (.int 1)) (z1 : Sta Z Z.heap s0 s3 "I" iZ) (z2 : Sta Z Z.heap s0 s4 "I" (.int 8)) (hu30 : own_nh x1) :
    CtrN l Z mn11 method_7_code 5 (some (.object s1)) [] (⟨6, 4, 20, 88⟩ : Room) #[(.int 2), (.int x1), (.int x2)] h0 [] (fun v h => ∃ r1 : Addr, h0.size ≤ r1 ∧ Exa Z h r1 s1 ∧ Sv l Z h r1 ((own_cn x1) + (own_cn x2)) [((0 : Int32), x1), ((own_cn x1), x2)] ∧ v = some (.ref r1)) := by
  refine CtrN.intro (L0 := #[vi 2, vi x1, vi x2, un, un]) (plainFor_of_name pn0) O0 (own_entry rfl) ?_
  intro p e s m below meth c T0 hy hml hret hlk hnm W0
  refine o_iloadN W0 1 (hb hy d2_0) rfl rfl <| o_ifY W0 15 (hb hy d2_1) (XT.i0_ne_t (by decide)) (by decide) rfl <| o_iloadN W0 16 (hb hy d2_15) rfl rfl <| o_ldcI W0 (w57 hw) 18 (hb hy d2_16) rfl ?_
  by_cases hq1 : x1 < (65536 : Int32)
  · refine o_icmpY W0 25 (hb hy d2_18) (XT.ii_lt_t hq1) (by decide) rfl <| o_iconst W0 (v := 0) 26 (hb hy d2_25) rfl rfl <| o_istoreN W0 (L' := #[vi 2, vi x1, vi x2, vi 0, un]) 27 (hb hy d2_26) rfl rfl <| o_iloadN W0 28 (hb hy d2_27) rfl rfl <| o_iconst W0 (v := 1) 29 (hb hy d2_28) rfl rfl <| o_icmpY W0 77 (hb hy d2_29) (XT.ii_ne_t (by decide)) (by decide) rfl ?_
    refine o_iloadN W0 78 (hb hy d2_77) rfl rfl <| o_ldcI W0 (w57 hw) 80 (hb hy d2_78) rfl ?_
    by_cases hq2 : x2 < (65536 : Int32)
    · refine o_icmpY W0 87 (hb hy d2_80) (XT.ii_lt_t hq2) (by decide) rfl <| o_iconst W0 (v := 0) 88 (hb hy d2_87) rfl rfl <| o_istore W0 (L' := #[vi 2, vi x1, vi x2, vi 0, vi 0]) 90 (hb hy d2_88) rfl rfl <| o_iloadN W0 91 (hb hy d2_90) rfl rfl <| o_ifY W0 138 (hb hy d2_91) (XT.i0_eq_t (by decide)) (by decide) rfl <| o_iloadN W0 139 (hb hy d2_138) rfl rfl ?_
      refine o_ifY W0 172 (hb hy d2_139) (XT.i0_eq_t (by decide)) (by decide) rfl <| o_iload W0 174 (hb hy d2_172) rfl rfl <| o_ifY W0 207 (hb hy d2_174) (XT.i0_eq_t (by decide)) (by decide) rfl ?_
      refine o_new W0 (w10 hw) (w11 hw) (w12 hw) tri 210 (hb hy d2_207) rfl (cells' := 1) (slots' := 4) rfl rfl (by decide) (by decide) ?_
      intro b3 T3 h3 W3 E3 ge3 gz3 gb3 A3 D3
      have Fb3_value : Fld Z h3 b3 s1 "value" "[B" .null := D3 (Or.inr (w26 hw)) (ty := (.array .byte)) (by decide)
      have Fb3_coder : Fld Z h3 b3 s1 "coder" "B" iZ := D3 (Or.inr (w27 hw)) (ty := .byte) (by decide)
      refine o_dup W3 211 (hb hy d2_210) rfl rfl <| o_iconst W3 (v := 2) 212 (hb hy d2_211) rfl rfl ?_
      refine o_newP W3 (aty := .char) (w13 hw) tri (by decide) (cap := 2) (by decide) (by decide) 214 (hb hy d2_212) rfl (cells' := 2) (slots' := 6) rfl rfl (by decide) (by decide) (vs := [iZ, iZ]) (dv := iZ) rfl rfl ?_
      intro b4 T4 h4 k4 W4 E4 ge4 gz4 gb4 V4
      refine o_dup W4 215 (hb hy d2_214) rfl rfl <| o_iconst W4 (v := 0) 216 (hb hy d2_215) rfl rfl <| o_iloadN W4 217 (hb hy d2_216) rfl rfl <| o_i2c W4 (v := x1) 218 (hb hy d2_217) (own_i2cc (own_cpc hu5 hq1)) rfl ?_
      refine o_stC W4 V4 (i := 0) (x' := x1) (by decide) (by decide) (by decide) (Nat.lt_of_sub_eq_succ rfl) (own_i2cc (own_cpc hu5 hq1)) (vs' := [(.int x1), iZ]) rfl gz4 (Or.inr gb4) tri 219 (hb hy d2_218) rfl ?_
      intro T6 h6 lo6 W6 R6 V6
      refine o_dup W6 220 (hb hy d2_219) rfl rfl <| o_iconst W6 (v := 1) 221 (hb hy d2_220) rfl rfl <| o_iloadN W6 222 (hb hy d2_221) rfl rfl <| o_i2c W6 (v := x2) 223 (hb hy d2_222) (own_i2cc (own_cpc hu7 hq2)) rfl ?_
      refine o_stC W6 V6 (i := 1) (x' := x2) (by decide) (by decide) (by decide) (Nat.lt_of_sub_eq_succ rfl) (own_i2cc (own_cpc hu7 hq2)) (vs' := [(.int x1), (.int x2)]) rfl gz4 (Or.inr gb4) tri 224 (hb hy d2_223) rfl ?_
      intro T8 h8 lo8 W8 R8 V8
      rcases (Classical.em ((255 : Int32) < x1)).symm with hq9 | hq9
      · rcases (Classical.em ((255 : Int32) < x2)).symm with hq10 | hq10
        · have c11 := (((Fb3_coder.ext E4).other R6 (Or.inl (own_ne A3.lt ge4))).other R8 (Or.inl (own_ne A3.lt ge4)))
          have c12 := (((Fb3_value.ext E4).other R6 (Or.inl (own_ne A3.lt ge4))).other R8 (Or.inl (own_ne A3.lt ge4)))
          have c13 := (((A3.ext E4).wr R6).wr R8)
          refine o_specialC W8 rfl (w14 hw) (w15 hw) (w16 hw) (by decide) (w12 hw) (rm74 l hw gCS b3 b4 k4 x1 x2 h8 W8.old V8 SgCS NgCS hu5 hq1 hq9 hu7 hq2 hq10 c13 c11 c12 gz3) 1 3 8 (by decide) (by rw [hml]; rfl) (lenOf pd2 rfl) [(.ref b3)] rfl rfl 227 (hb hy d2_224) rfl rfl rfl (allS ⟨gz3, (Or.inr gb3)⟩ all0) tri ?_
          intro v14 T14 h14 lo14 W14 K14 q14
          obtain ⟨r1_14, r2_14, P14_0, P14_1, P14_2, P14_3, rfl⟩ := q14.2.2
          show Gl _ _ _ _ _ _ _ _ [(.ref b3)]
          have sv15 : Sv l Z h14 b3 ((own_cn x1) + (own_cn x2)) [((0 : Int32), x1), ((own_cn x1), x2)] := by
            intro h' O' K'
            have c16 := (P14_2.keep K' nin0)
            have c17 := (P14_3.keep K' nin0)
            have c18 := (P14_1.keep K' nin0)
            have c19 := ((c13.keep K14).keep K')
            rw [own_cn1 hq1, own_cn1 hq2, show (1 : Int32) + 1 = 2 from rfl]
            exact ⟨(rm75 l hw gCS b3 r1_14 r2_14 x1 x2 h' O' c16 c17 c19 SgCS NgCS c18), (al1 (rm76 l hw gCS gF b3 r1_14 r2_14 x1 x2 h' O' c19 SgCS NgCS c18 c16 c17 SgF NgF hu5 hq1 hq9) (al1 (rm80 l hw gCS gF b3 r1_14 r2_14 x1 x2 h' O' c19 SgCS NgCS c18 c16 c17 SgF NgF hu7 hq2 hq10) al0))⟩
          have c20 := (c13.keep K14)
          exact o_retA W14 hlk (v := (.ref b3)) hret rfl rfl (hb hy d2_227) (by decide) (by decide) ⟨b3, gb3, c20, sv15, rfl⟩
        · have c21 := (((Fb3_coder.ext E4).other R6 (Or.inl (own_ne A3.lt ge4))).other R8 (Or.inl (own_ne A3.lt ge4)))
          have c22 := (((Fb3_value.ext E4).other R6 (Or.inl (own_ne A3.lt ge4))).other R8 (Or.inl (own_ne A3.lt ge4)))
          have c23 := (((A3.ext E4).wr R6).wr R8)
          refine o_specialC W8 rfl (w14 hw) (w15 hw) (w16 hw) (by decide) (w12 hw) (rm89 l hw gCS b3 b4 k4 x1 x2 h8 W8.old V8 SgCS NgCS hu5 hq1 hq9 hu7 hq2 hq10 z0 z1 z2 c23 c21 c22 gz3) 1 4 12 (by decide) (by rw [hml]; rfl) (lenOf pd2 rfl) [(.ref b3)] rfl rfl 227 (hb hy d2_224) rfl rfl rfl (allS ⟨gz3, (Or.inr gb3)⟩ all0) tri ?_
          intro v24 T24 h24 lo24 W24 K24 q24
          obtain ⟨r1_24, r2_24, P24_0, P24_1, P24_2, P24_3, rfl⟩ := q24.2.2
          show Gl _ _ _ _ _ _ _ _ [(.ref b3)]
          have sv25 : Sv l Z h24 b3 ((own_cn x1) + (own_cn x2)) [((0 : Int32), x1), ((own_cn x1), x2)] := by
            intro h' O' K'
            have c26 := (P24_2.keep K' nin0)
            have c27 := (P24_3.keep K' nin0)
            have c28 := (P24_1.keep K' nin0)
            have c29 := ((c23.keep K24).keep K')
            rw [own_cn1 hq1, own_cn1 hq2, show (1 : Int32) + 1 = 2 from rfl]
            exact ⟨(rm90 l hw gCS b3 r1_24 r2_24 x1 x2 h' O' c26 c27 c29 SgCS NgCS c28), (al1 (rm94 l hw gCS gF b3 r1_24 r2_24 x1 x2 h' O' c29 SgCS NgCS c28 c26 c27 SgF NgF z0 z1 z2 hu5 hq1 hu30) (al1 (rm99 l hw gCS gF b3 r1_24 r2_24 x1 x2 h' O' c29 SgCS NgCS c28 c26 c27 SgF NgF z0 z1 z2 hu7 hq2 hq2 hq2) al0))⟩
          have c31 := (c23.keep K24)
          exact o_retA W24 hlk (v := (.ref b3)) hret rfl rfl (hb hy d2_227) (by decide) (by decide) ⟨b3, gb3, c31, sv25, rfl⟩
      · have c32 := (((Fb3_coder.ext E4).other R6 (Or.inl (own_ne A3.lt ge4))).other R8 (Or.inl (own_ne A3.lt ge4)))
        have c33 := (((Fb3_value.ext E4).other R6 (Or.inl (own_ne A3.lt ge4))).other R8 (Or.inl (own_ne A3.lt ge4)))
        have c34 := (((A3.ext E4).wr R6).wr R8)
        refine o_specialC W8 rfl (w14 hw) (w15 hw) (w16 hw) (by decide) (w12 hw) (rm103 l hw gCS b3 b4 k4 x1 x2 h8 W8.old V8 SgCS NgCS hu5 hq1 hq9 z0 z1 z2 c34 c32 c33 gz3) 1 4 12 (by decide) (by rw [hml]; rfl) (lenOf pd2 rfl) [(.ref b3)] rfl rfl 227 (hb hy d2_224) rfl rfl rfl (allS ⟨gz3, (Or.inr gb3)⟩ all0) tri ?_
        intro v35 T35 h35 lo35 W35 K35 q35
        obtain ⟨r1_35, r2_35, P35_0, P35_1, P35_2, P35_3, rfl⟩ := q35.2.2
        show Gl _ _ _ _ _ _ _ _ [(.ref b3)]
        have sv36 : Sv l Z h35 b3 ((own_cn x1) + (own_cn x2)) [((0 : Int32), x1), ((own_cn x1), x2)] := by
          intro h' O' K'
          have c37 := (P35_2.keep K' nin0)
          have c38 := (P35_3.keep K' nin0)
          have c39 := (P35_1.keep K' nin0)
          have c40 := ((c34.keep K35).keep K')
          rw [own_cn1 hq1, own_cn1 hq2, show (1 : Int32) + 1 = 2 from rfl]
          exact ⟨(rm90 l hw gCS b3 r1_35 r2_35 x1 x2 h' O' c37 c38 c40 SgCS NgCS c39), (al1 (rm94 l hw gCS gF b3 r1_35 r2_35 x1 x2 h' O' c40 SgCS NgCS c39 c37 c38 SgF NgF z0 z1 z2 hu5 hq1 hu30) (al1 (rm99 l hw gCS gF b3 r1_35 r2_35 x1 x2 h' O' c40 SgCS NgCS c39 c37 c38 SgF NgF z0 z1 z2 hu7 hq2 hq2 hq2) al0))⟩
        have c41 := (c34.keep K35)
        exact o_retA W35 hlk (v := (.ref b3)) hret rfl rfl (hb hy d2_227) (by decide) (by decide) ⟨b3, gb3, c41, sv36, rfl⟩
    · refine o_icmpN W0 83 (hb hy d2_80) (XT.ii_lt_f hq2) rfl <| o_iconst W0 (v := 1) 84 (hb hy d2_83) rfl rfl <| o_goto W0 88 (hb hy d2_84) (by decide) rfl <| o_istore W0 (L' := #[vi 2, vi x1, vi x2, vi 0, vi 1]) 90 (hb hy d2_88) rfl rfl <| o_iloadN W0 91 (hb hy d2_90) rfl rfl <| o_ifY W0 138 (hb hy d2_91) (XT.i0_eq_t (by decide)) (by decide) rfl ?_
      refine o_iloadN W0 139 (hb hy d2_138) rfl rfl <| o_ifY W0 172 (hb hy d2_139) (XT.i0_eq_t (by decide)) (by decide) rfl <| o_iload W0 174 (hb hy d2_172) rfl rfl <| o_ifN W0 177 (hb hy d2_174) (XT.i0_eq_f (by decide)) rfl ?_
      refine o_new W0 (w10 hw) (w11 hw) (w12 hw) tri 180 (hb hy d2_177) rfl (cells' := 1) (slots' := 4) rfl rfl (by decide) (by decide) ?_
      intro b42 T42 h42 W42 E42 ge42 gz42 gb42 A42 D42
      have Fb42_value : Fld Z h42 b42 s1 "value" "[B" .null := D42 (Or.inr (w26 hw)) (ty := (.array .byte)) (by decide)
      have Fb42_coder : Fld Z h42 b42 s1 "coder" "B" iZ := D42 (Or.inr (w27 hw)) (ty := .byte) (by decide)
      refine o_dup W42 181 (hb hy d2_180) rfl rfl <| o_iconst W42 (v := 3) 182 (hb hy d2_181) rfl rfl ?_
      refine o_newP W42 (aty := .char) (w13 hw) tri (by decide) (cap := 3) (by decide) (by decide) 184 (hb hy d2_182) rfl (cells' := 2) (slots' := 7) rfl rfl (by decide) (by decide) (vs := [iZ, iZ, iZ]) (dv := iZ) rfl rfl ?_
      intro b43 T43 h43 k43 W43 E43 ge43 gz43 gb43 V43
      refine o_dup W43 185 (hb hy d2_184) rfl rfl <| o_iconst W43 (v := 0) 186 (hb hy d2_185) rfl rfl <| o_iloadN W43 187 (hb hy d2_186) rfl rfl <| o_i2c W43 (v := x1) 188 (hb hy d2_187) (own_i2cc (own_cpc hu5 hq1)) rfl ?_
      refine o_stC W43 V43 (i := 0) (x' := x1) (by decide) (by decide) (by decide) (Nat.lt_of_sub_eq_succ rfl) (own_i2cc (own_cpc hu5 hq1)) (vs' := [(.int x1), iZ, iZ]) rfl gz43 (Or.inr gb43) tri 189 (hb hy d2_188) rfl ?_
      intro T44 h44 lo44 W44 R44 V44
      refine o_dup W44 190 (hb hy d2_189) rfl rfl <| o_iconst W44 (v := 1) 191 (hb hy d2_190) rfl rfl <| o_iloadN W44 192 (hb hy d2_191) rfl rfl ?_
      refine o_staticC W44 (w87 hw) (w88 hw) (w2 hw) (w89 hw) (by decide) (rm1 l hw x2 h44 W44.old ) 5 2 7 (by decide) (by rw [hml]; rfl) (lenOf pd21 rfl) [(.int 1), (.ref b43), (.ref b43), (.ref b42), (.ref b42)] rfl rfl 195 (hb hy d2_192) rfl rfl rfl all0 tri ?_
      intro v45 T45 h45 lo45 W45 K45 q45
      obtain rfl := q45.2.2
      show Gl _ _ _ _ _ _ _ _ [(.int (own_hi x2)), (.int 1), (.ref b43), (.ref b43), (.ref b42), (.ref b42)]
      have c46 := (V44.keep K45 nin0)
      refine o_stC W45 c46 (i := 1) (x' := (own_hi x2)) (by decide) (by decide) (by decide) (Nat.lt_of_sub_eq_succ rfl) (own_i2cc (own_hic _)) (vs' := [(.int x1), (.int (own_hi x2)), iZ]) rfl gz43 (Or.inr gb43) tri 196 (hb hy d2_195) rfl ?_
      intro T47 h47 lo47 W47 R47 V47
      refine o_dup W47 197 (hb hy d2_196) rfl rfl <| o_iconst W47 (v := 2) 198 (hb hy d2_197) rfl rfl <| o_iloadN W47 199 (hb hy d2_198) rfl rfl ?_
      refine o_staticC W47 (w90 hw) (w91 hw) (w2 hw) (w92 hw) (by decide) (rm2 l hw x2 h47 W47.old ) 5 2 7 (by decide) (by rw [hml]; rfl) (lenOf pd21 rfl) [(.int 2), (.ref b43), (.ref b43), (.ref b42), (.ref b42)] rfl rfl 202 (hb hy d2_199) rfl rfl rfl all0 tri ?_
      intro v48 T48 h48 lo48 W48 K48 q48
      obtain rfl := q48.2.2
      show Gl _ _ _ _ _ _ _ _ [(.int (own_lo x2)), (.int 2), (.ref b43), (.ref b43), (.ref b42), (.ref b42)]
      have c49 := (V47.keep K48 nin0)
      refine o_stC W48 c49 (i := 2) (x' := (own_lo x2)) (by decide) (by decide) (by decide) (Nat.lt_of_sub_eq_succ rfl) (own_i2cc (own_loc _)) (vs' := [(.int x1), (.int (own_hi x2)), (.int (own_lo x2))]) rfl gz43 (Or.inr gb43) tri 203 (hb hy d2_202) rfl ?_
      intro T50 h50 lo50 W50 R50 V50
      rcases (Classical.em ((255 : Int32) < x1)).symm with hq51 | hq51
      · have c52 := ((((((Fb42_coder.ext E43).other R44 (Or.inl (own_ne A42.lt ge43))).keep K45 nin0).other R47 (Or.inl (own_ne A42.lt ge43))).keep K48 nin0).other R50 (Or.inl (own_ne A42.lt ge43)))
        have c53 := ((((((Fb42_value.ext E43).other R44 (Or.inl (own_ne A42.lt ge43))).keep K45 nin0).other R47 (Or.inl (own_ne A42.lt ge43))).keep K48 nin0).other R50 (Or.inl (own_ne A42.lt ge43)))
        have c54 := ((((((A42.ext E43).wr R44).keep K45).wr R47).keep K48).wr R50)
        refine o_specialC W50 rfl (w14 hw) (w15 hw) (w16 hw) (by decide) (w12 hw) (rm115 l hw gCS b42 b43 k43 x1 x2 h50 W50.old V50 SgCS NgCS hu5 hq1 hq51 hu7 hq2 z0 z1 z2 c54 c52 c53 gz42) 1 4 16 (by decide) (by rw [hml]; rfl) (lenOf pd2 rfl) [(.ref b42)] rfl rfl 206 (hb hy d2_203) rfl rfl rfl (allS ⟨gz42, (Or.inr gb42)⟩ all0) tri ?_
        intro v55 T55 h55 lo55 W55 K55 q55
        obtain ⟨r1_55, r2_55, P55_0, P55_1, P55_2, P55_3, rfl⟩ := q55.2.2
        show Gl _ _ _ _ _ _ _ _ [(.ref b42)]
        have sv56 : Sv l Z h55 b42 ((own_cn x1) + (own_cn x2)) [((0 : Int32), x1), ((own_cn x1), x2)] := by
          intro h' O' K'
          have c57 := (P55_2.keep K' nin0)
          have c58 := (P55_3.keep K' nin0)
          have c59 := (P55_1.keep K' nin0)
          have c60 := ((c54.keep K55).keep K')
          rw [own_cn1 hq1, own_cn2 hq2, show (1 : Int32) + 2 = 3 from rfl]
          exact ⟨(rm116 l hw gCS b42 r1_55 r2_55 x1 x2 h' O' c57 c58 c60 SgCS NgCS c59), (al1 (rm123 l hw gCS gF b42 r1_55 r2_55 x1 x2 h' O' c60 SgCS NgCS c59 c57 c58 SgF NgF z0 z1 z2 hu5 hq1 hu30) (al1 (rm130 l hw gCS gF b42 r1_55 r2_55 x1 x2 h' O' c60 SgCS NgCS c59 c57 c58 SgF NgF z0 z1 z2 hu7 hq2) al0))⟩
        have c61 := (c54.keep K55)
        exact o_retA W55 hlk (v := (.ref b42)) hret rfl rfl (hb hy d2_206) (by decide) (by decide) ⟨b42, gb42, c61, sv56, rfl⟩
      · have c62 := ((((((Fb42_coder.ext E43).other R44 (Or.inl (own_ne A42.lt ge43))).keep K45 nin0).other R47 (Or.inl (own_ne A42.lt ge43))).keep K48 nin0).other R50 (Or.inl (own_ne A42.lt ge43)))
        have c63 := ((((((Fb42_value.ext E43).other R44 (Or.inl (own_ne A42.lt ge43))).keep K45 nin0).other R47 (Or.inl (own_ne A42.lt ge43))).keep K48 nin0).other R50 (Or.inl (own_ne A42.lt ge43)))
        have c64 := ((((((A42.ext E43).wr R44).keep K45).wr R47).keep K48).wr R50)
        refine o_specialC W50 rfl (w14 hw) (w15 hw) (w16 hw) (by decide) (w12 hw) (rm134 l hw gCS b42 b43 k43 x1 x2 h50 W50.old V50 SgCS NgCS hu5 hq1 hq51 z0 z1 z2 c64 c62 c63 gz42) 1 4 16 (by decide) (by rw [hml]; rfl) (lenOf pd2 rfl) [(.ref b42)] rfl rfl 206 (hb hy d2_203) rfl rfl rfl (allS ⟨gz42, (Or.inr gb42)⟩ all0) tri ?_
        intro v65 T65 h65 lo65 W65 K65 q65
        obtain ⟨r1_65, r2_65, P65_0, P65_1, P65_2, P65_3, rfl⟩ := q65.2.2
        show Gl _ _ _ _ _ _ _ _ [(.ref b42)]
        have sv66 : Sv l Z h65 b42 ((own_cn x1) + (own_cn x2)) [((0 : Int32), x1), ((own_cn x1), x2)] := by
          intro h' O' K'
          have c67 := (P65_2.keep K' nin0)
          have c68 := (P65_3.keep K' nin0)
          have c69 := (P65_1.keep K' nin0)
          have c70 := ((c64.keep K65).keep K')
          rw [own_cn1 hq1, own_cn2 hq2, show (1 : Int32) + 2 = 3 from rfl]
          exact ⟨(rm116 l hw gCS b42 r1_65 r2_65 x1 x2 h' O' c67 c68 c70 SgCS NgCS c69), (al1 (rm123 l hw gCS gF b42 r1_65 r2_65 x1 x2 h' O' c70 SgCS NgCS c69 c67 c68 SgF NgF z0 z1 z2 hu5 hq1 hu30) (al1 (rm130 l hw gCS gF b42 r1_65 r2_65 x1 x2 h' O' c70 SgCS NgCS c69 c67 c68 SgF NgF z0 z1 z2 hu7 hq2) al0))⟩
        have c71 := (c64.keep K65)
        exact o_retA W65 hlk (v := (.ref b42)) hret rfl rfl (hb hy d2_206) (by decide) (by decide) ⟨b42, gb42, c71, sv66, rfl⟩
  · refine o_icmpN W0 21 (hb hy d2_18) (XT.ii_lt_f hq1) rfl <| o_iconst W0 (v := 1) 22 (hb hy d2_21) rfl rfl <| o_goto W0 26 (hb hy d2_22) (by decide) rfl <| o_istoreN W0 (L' := #[vi 2, vi x1, vi x2, vi 1, un]) 27 (hb hy d2_26) rfl rfl <| o_iloadN W0 28 (hb hy d2_27) rfl rfl <| o_iconst W0 (v := 1) 29 (hb hy d2_28) rfl rfl ?_
    refine o_icmpY W0 77 (hb hy d2_29) (XT.ii_ne_t (by decide)) (by decide) rfl <| o_iloadN W0 78 (hb hy d2_77) rfl rfl <| o_ldcI W0 (w57 hw) 80 (hb hy d2_78) rfl ?_
    by_cases hq72 : x2 < (65536 : Int32)
    · refine o_icmpY W0 87 (hb hy d2_80) (XT.ii_lt_t hq72) (by decide) rfl <| o_iconst W0 (v := 0) 88 (hb hy d2_87) rfl rfl <| o_istore W0 (L' := #[vi 2, vi x1, vi x2, vi 1, vi 0]) 90 (hb hy d2_88) rfl rfl <| o_iloadN W0 91 (hb hy d2_90) rfl rfl <| o_ifN W0 94 (hb hy d2_91) (XT.i0_eq_f (by decide)) rfl <| o_iload W0 96 (hb hy d2_94) rfl rfl ?_
      refine o_ifY W0 138 (hb hy d2_96) (XT.i0_eq_t (by decide)) (by decide) rfl <| o_iloadN W0 139 (hb hy d2_138) rfl rfl <| o_ifN W0 142 (hb hy d2_139) (XT.i0_eq_f (by decide)) rfl ?_
      refine o_new W0 (w10 hw) (w11 hw) (w12 hw) tri 145 (hb hy d2_142) rfl (cells' := 1) (slots' := 4) rfl rfl (by decide) (by decide) ?_
      intro b73 T73 h73 W73 E73 ge73 gz73 gb73 A73 D73
      have Fb73_value : Fld Z h73 b73 s1 "value" "[B" .null := D73 (Or.inr (w26 hw)) (ty := (.array .byte)) (by decide)
      have Fb73_coder : Fld Z h73 b73 s1 "coder" "B" iZ := D73 (Or.inr (w27 hw)) (ty := .byte) (by decide)
      refine o_dup W73 146 (hb hy d2_145) rfl rfl <| o_iconst W73 (v := 3) 147 (hb hy d2_146) rfl rfl ?_
      refine o_newP W73 (aty := .char) (w13 hw) tri (by decide) (cap := 3) (by decide) (by decide) 149 (hb hy d2_147) rfl (cells' := 2) (slots' := 7) rfl rfl (by decide) (by decide) (vs := [iZ, iZ, iZ]) (dv := iZ) rfl rfl ?_
      intro b74 T74 h74 k74 W74 E74 ge74 gz74 gb74 V74
      refine o_dup W74 150 (hb hy d2_149) rfl rfl <| o_iconst W74 (v := 0) 151 (hb hy d2_150) rfl rfl <| o_iloadN W74 152 (hb hy d2_151) rfl rfl ?_
      refine o_staticC W74 (w87 hw) (w88 hw) (w2 hw) (w89 hw) (by decide) (rm1 l hw x1 h74 W74.old ) 5 2 7 (by decide) (by rw [hml]; rfl) (lenOf pd21 rfl) [iZ, (.ref b74), (.ref b74), (.ref b73), (.ref b73)] rfl rfl 155 (hb hy d2_152) rfl rfl rfl all0 tri ?_
      intro v75 T75 h75 lo75 W75 K75 q75
      obtain rfl := q75.2.2
      show Gl _ _ _ _ _ _ _ _ [(.int (own_hi x1)), iZ, (.ref b74), (.ref b74), (.ref b73), (.ref b73)]
      have c76 := (V74.keep K75 nin0)
      refine o_stC W75 c76 (i := 0) (x' := (own_hi x1)) (by decide) (by decide) (by decide) (Nat.lt_of_sub_eq_succ rfl) (own_i2cc (own_hic _)) (vs' := [(.int (own_hi x1)), iZ, iZ]) rfl gz74 (Or.inr gb74) tri 156 (hb hy d2_155) rfl ?_
      intro T77 h77 lo77 W77 R77 V77
      refine o_dup W77 157 (hb hy d2_156) rfl rfl <| o_iconst W77 (v := 1) 158 (hb hy d2_157) rfl rfl <| o_iloadN W77 159 (hb hy d2_158) rfl rfl ?_
      refine o_staticC W77 (w90 hw) (w91 hw) (w2 hw) (w92 hw) (by decide) (rm2 l hw x1 h77 W77.old ) 5 2 7 (by decide) (by rw [hml]; rfl) (lenOf pd21 rfl) [(.int 1), (.ref b74), (.ref b74), (.ref b73), (.ref b73)] rfl rfl 162 (hb hy d2_159) rfl rfl rfl all0 tri ?_
      intro v78 T78 h78 lo78 W78 K78 q78
      obtain rfl := q78.2.2
      show Gl _ _ _ _ _ _ _ _ [(.int (own_lo x1)), (.int 1), (.ref b74), (.ref b74), (.ref b73), (.ref b73)]
      have c79 := (V77.keep K78 nin0)
      refine o_stC W78 c79 (i := 1) (x' := (own_lo x1)) (by decide) (by decide) (by decide) (Nat.lt_of_sub_eq_succ rfl) (own_i2cc (own_loc _)) (vs' := [(.int (own_hi x1)), (.int (own_lo x1)), iZ]) rfl gz74 (Or.inr gb74) tri 163 (hb hy d2_162) rfl ?_
      intro T80 h80 lo80 W80 R80 V80
      refine o_dup W80 164 (hb hy d2_163) rfl rfl <| o_iconst W80 (v := 2) 165 (hb hy d2_164) rfl rfl <| o_iloadN W80 166 (hb hy d2_165) rfl rfl <| o_i2c W80 (v := x2) 167 (hb hy d2_166) (own_i2cc (own_cpc hu7 hq72)) rfl ?_
      refine o_stC W80 V80 (i := 2) (x' := x2) (by decide) (by decide) (by decide) (Nat.lt_of_sub_eq_succ rfl) (own_i2cc (own_cpc hu7 hq72)) (vs' := [(.int (own_hi x1)), (.int (own_lo x1)), (.int x2)]) rfl gz74 (Or.inr gb74) tri 168 (hb hy d2_167) rfl ?_
      intro T81 h81 lo81 W81 R81 V81
      have c82 := ((((((Fb73_coder.ext E74).keep K75 nin0).other R77 (Or.inl (own_ne A73.lt ge74))).keep K78 nin0).other R80 (Or.inl (own_ne A73.lt ge74))).other R81 (Or.inl (own_ne A73.lt ge74)))
      have c83 := ((((((Fb73_value.ext E74).keep K75 nin0).other R77 (Or.inl (own_ne A73.lt ge74))).keep K78 nin0).other R80 (Or.inl (own_ne A73.lt ge74))).other R81 (Or.inl (own_ne A73.lt ge74)))
      have c84 := ((((((A73.ext E74).keep K75).wr R77).keep K78).wr R80).wr R81)
      refine o_specialC W81 rfl (w14 hw) (w15 hw) (w16 hw) (by decide) (w12 hw) (rm144 l hw gCS b73 b74 k74 x1 x2 h81 W81.old V81 SgCS NgCS hu5 hq1 z0 z1 z2 c84 c82 c83 gz73) 1 4 16 (by decide) (by rw [hml]; rfl) (lenOf pd2 rfl) [(.ref b73)] rfl rfl 171 (hb hy d2_168) rfl rfl rfl (allS ⟨gz73, (Or.inr gb73)⟩ all0) tri ?_
      intro v85 T85 h85 lo85 W85 K85 q85
      obtain ⟨r1_85, r2_85, P85_0, P85_1, P85_2, P85_3, rfl⟩ := q85.2.2
      show Gl _ _ _ _ _ _ _ _ [(.ref b73)]
      have sv86 : Sv l Z h85 b73 ((own_cn x1) + (own_cn x2)) [((0 : Int32), x1), ((own_cn x1), x2)] := by
        intro h' O' K'
        have c87 := (P85_2.keep K' nin0)
        have c88 := (P85_3.keep K' nin0)
        have c89 := (P85_1.keep K' nin0)
        have c90 := ((c84.keep K85).keep K')
        rw [own_cn2 hq1, own_cn1 hq72, show (2 : Int32) + 1 = 3 from rfl]
        exact ⟨(rm145 l hw gCS b73 r1_85 r2_85 x1 x2 h' O' c87 c88 c90 SgCS NgCS c89), (al1 (rm149 l hw gCS gF b73 r1_85 r2_85 x1 x2 h' O' c90 SgCS NgCS c89 c87 c88 SgF NgF z0 z1 z2 hu5 hq1) (al1 (rm158 l hw gCS gF b73 r1_85 r2_85 x1 x2 h' O' c90 SgCS NgCS c89 c87 c88 SgF NgF z0 z1 z2 hu7 hq72 hq72 hq72) al0))⟩
      have c91 := (c84.keep K85)
      exact o_retA W85 hlk (v := (.ref b73)) hret rfl rfl (hb hy d2_171) (by decide) (by decide) ⟨b73, gb73, c91, sv86, rfl⟩
    · refine o_icmpN W0 83 (hb hy d2_80) (XT.ii_lt_f hq72) rfl <| o_iconst W0 (v := 1) 84 (hb hy d2_83) rfl rfl <| o_goto W0 88 (hb hy d2_84) (by decide) rfl <| o_istore W0 (L' := #[vi 2, vi x1, vi x2, vi 1, vi 1]) 90 (hb hy d2_88) rfl rfl <| o_iloadN W0 91 (hb hy d2_90) rfl rfl <| o_ifN W0 94 (hb hy d2_91) (XT.i0_eq_f (by decide)) rfl ?_
      refine o_iload W0 96 (hb hy d2_94) rfl rfl <| o_ifN W0 99 (hb hy d2_96) (XT.i0_eq_f (by decide)) rfl ?_
      refine o_new W0 (w10 hw) (w11 hw) (w12 hw) tri 102 (hb hy d2_99) rfl (cells' := 1) (slots' := 4) rfl rfl (by decide) (by decide) ?_
      intro b92 T92 h92 W92 E92 ge92 gz92 gb92 A92 D92
      have Fb92_value : Fld Z h92 b92 s1 "value" "[B" .null := D92 (Or.inr (w26 hw)) (ty := (.array .byte)) (by decide)
      have Fb92_coder : Fld Z h92 b92 s1 "coder" "B" iZ := D92 (Or.inr (w27 hw)) (ty := .byte) (by decide)
      refine o_dup W92 103 (hb hy d2_102) rfl rfl <| o_iconst W92 (v := 4) 104 (hb hy d2_103) rfl rfl ?_
      refine o_newP W92 (aty := .char) (w13 hw) tri (by decide) (cap := 4) (by decide) (by decide) 106 (hb hy d2_104) rfl (cells' := 2) (slots' := 8) rfl rfl (by decide) (by decide) (vs := [iZ, iZ, iZ, iZ]) (dv := iZ) rfl rfl ?_
      intro b93 T93 h93 k93 W93 E93 ge93 gz93 gb93 V93
      refine o_dup W93 107 (hb hy d2_106) rfl rfl <| o_iconst W93 (v := 0) 108 (hb hy d2_107) rfl rfl <| o_iloadN W93 109 (hb hy d2_108) rfl rfl ?_
      refine o_staticC W93 (w87 hw) (w88 hw) (w2 hw) (w89 hw) (by decide) (rm1 l hw x1 h93 W93.old ) 5 2 8 (by decide) (by rw [hml]; rfl) (lenOf pd21 rfl) [iZ, (.ref b93), (.ref b93), (.ref b92), (.ref b92)] rfl rfl 112 (hb hy d2_109) rfl rfl rfl all0 tri ?_
      intro v94 T94 h94 lo94 W94 K94 q94
      obtain rfl := q94.2.2
      show Gl _ _ _ _ _ _ _ _ [(.int (own_hi x1)), iZ, (.ref b93), (.ref b93), (.ref b92), (.ref b92)]
      have c95 := (V93.keep K94 nin0)
      refine o_stC W94 c95 (i := 0) (x' := (own_hi x1)) (by decide) (by decide) (by decide) (Nat.lt_of_sub_eq_succ rfl) (own_i2cc (own_hic _)) (vs' := [(.int (own_hi x1)), iZ, iZ, iZ]) rfl gz93 (Or.inr gb93) tri 113 (hb hy d2_112) rfl ?_
      intro T96 h96 lo96 W96 R96 V96
      refine o_dup W96 114 (hb hy d2_113) rfl rfl <| o_iconst W96 (v := 1) 115 (hb hy d2_114) rfl rfl <| o_iloadN W96 116 (hb hy d2_115) rfl rfl ?_
      refine o_staticC W96 (w90 hw) (w91 hw) (w2 hw) (w92 hw) (by decide) (rm2 l hw x1 h96 W96.old ) 5 2 8 (by decide) (by rw [hml]; rfl) (lenOf pd21 rfl) [(.int 1), (.ref b93), (.ref b93), (.ref b92), (.ref b92)] rfl rfl 119 (hb hy d2_116) rfl rfl rfl all0 tri ?_
      intro v97 T97 h97 lo97 W97 K97 q97
      obtain rfl := q97.2.2
      show Gl _ _ _ _ _ _ _ _ [(.int (own_lo x1)), (.int 1), (.ref b93), (.ref b93), (.ref b92), (.ref b92)]
      have c98 := (V96.keep K97 nin0)
      refine o_stC W97 c98 (i := 1) (x' := (own_lo x1)) (by decide) (by decide) (by decide) (Nat.lt_of_sub_eq_succ rfl) (own_i2cc (own_loc _)) (vs' := [(.int (own_hi x1)), (.int (own_lo x1)), iZ, iZ]) rfl gz93 (Or.inr gb93) tri 120 (hb hy d2_119) rfl ?_
      intro T99 h99 lo99 W99 R99 V99
      refine o_dup W99 121 (hb hy d2_120) rfl rfl <| o_iconst W99 (v := 2) 122 (hb hy d2_121) rfl rfl <| o_iloadN W99 123 (hb hy d2_122) rfl rfl ?_
      refine o_staticC W99 (w87 hw) (w88 hw) (w2 hw) (w89 hw) (by decide) (rm1 l hw x2 h99 W99.old ) 5 2 8 (by decide) (by rw [hml]; rfl) (lenOf pd21 rfl) [(.int 2), (.ref b93), (.ref b93), (.ref b92), (.ref b92)] rfl rfl 126 (hb hy d2_123) rfl rfl rfl all0 tri ?_
      intro v100 T100 h100 lo100 W100 K100 q100
      obtain rfl := q100.2.2
      show Gl _ _ _ _ _ _ _ _ [(.int (own_hi x2)), (.int 2), (.ref b93), (.ref b93), (.ref b92), (.ref b92)]
      have c101 := (V99.keep K100 nin0)
      refine o_stC W100 c101 (i := 2) (x' := (own_hi x2)) (by decide) (by decide) (by decide) (Nat.lt_of_sub_eq_succ rfl) (own_i2cc (own_hic _)) (vs' := [(.int (own_hi x1)), (.int (own_lo x1)), (.int (own_hi x2)), iZ]) rfl gz93 (Or.inr gb93) tri 127 (hb hy d2_126) rfl ?_
      intro T102 h102 lo102 W102 R102 V102
      refine o_dup W102 128 (hb hy d2_127) rfl rfl <| o_iconst W102 (v := 3) 129 (hb hy d2_128) rfl rfl <| o_iloadN W102 130 (hb hy d2_129) rfl rfl ?_
      refine o_staticC W102 (w90 hw) (w91 hw) (w2 hw) (w92 hw) (by decide) (rm2 l hw x2 h102 W102.old ) 5 2 8 (by decide) (by rw [hml]; rfl) (lenOf pd21 rfl) [(.int 3), (.ref b93), (.ref b93), (.ref b92), (.ref b92)] rfl rfl 133 (hb hy d2_130) rfl rfl rfl all0 tri ?_
      intro v103 T103 h103 lo103 W103 K103 q103
      obtain rfl := q103.2.2
      show Gl _ _ _ _ _ _ _ _ [(.int (own_lo x2)), (.int 3), (.ref b93), (.ref b93), (.ref b92), (.ref b92)]
      have c104 := (V102.keep K103 nin0)
      refine o_stC W103 c104 (i := 3) (x' := (own_lo x2)) (by decide) (by decide) (by decide) (Nat.lt_of_sub_eq_succ rfl) (own_i2cc (own_loc _)) (vs' := [(.int (own_hi x1)), (.int (own_lo x1)), (.int (own_hi x2)), (.int (own_lo x2))]) rfl gz93 (Or.inr gb93) tri 134 (hb hy d2_133) rfl ?_
      intro T105 h105 lo105 W105 R105 V105
      have c106 := (((((((((Fb92_coder.ext E93).keep K94 nin0).other R96 (Or.inl (own_ne A92.lt ge93))).keep K97 nin0).other R99 (Or.inl (own_ne A92.lt ge93))).keep K100 nin0).other R102 (Or.inl (own_ne A92.lt ge93))).keep K103 nin0).other R105 (Or.inl (own_ne A92.lt ge93)))
      have c107 := (((((((((Fb92_value.ext E93).keep K94 nin0).other R96 (Or.inl (own_ne A92.lt ge93))).keep K97 nin0).other R99 (Or.inl (own_ne A92.lt ge93))).keep K100 nin0).other R102 (Or.inl (own_ne A92.lt ge93))).keep K103 nin0).other R105 (Or.inl (own_ne A92.lt ge93)))
      have c108 := (((((((((A92.ext E93).keep K94).wr R96).keep K97).wr R99).keep K100).wr R102).keep K103).wr R105)
      refine o_specialC W105 rfl (w14 hw) (w15 hw) (w16 hw) (by decide) (w12 hw) (rm171 l hw gCS b92 b93 k93 x1 x2 h105 W105.old V105 SgCS NgCS hu5 hq1 z0 z1 z2 c108 c106 c107 gz92) 1 4 20 (by decide) (by rw [hml]; rfl) (lenOf pd2 rfl) [(.ref b92)] rfl rfl 137 (hb hy d2_134) rfl rfl rfl (allS ⟨gz92, (Or.inr gb92)⟩ all0) tri ?_
      intro v109 T109 h109 lo109 W109 K109 q109
      obtain ⟨r1_109, r2_109, P109_0, P109_1, P109_2, P109_3, rfl⟩ := q109.2.2
      show Gl _ _ _ _ _ _ _ _ [(.ref b92)]
      have sv110 : Sv l Z h109 b92 ((own_cn x1) + (own_cn x2)) [((0 : Int32), x1), ((own_cn x1), x2)] := by
        intro h' O' K'
        have c111 := (P109_2.keep K' nin0)
        have c112 := (P109_3.keep K' nin0)
        have c113 := (P109_1.keep K' nin0)
        have c114 := ((c108.keep K109).keep K')
        rw [own_cn2 hq1, own_cn2 hq72, show (2 : Int32) + 2 = 4 from rfl]
        exact ⟨(rm172 l hw gCS b92 r1_109 r2_109 x1 x2 h' O' c111 c112 c114 SgCS NgCS c113), (al1 (rm179 l hw gCS gF b92 r1_109 r2_109 x1 x2 h' O' c114 SgCS NgCS c113 c111 c112 SgF NgF z0 z1 z2 hu5 hq1) (al1 (rm187 l hw gCS gF b92 r1_109 r2_109 x1 x2 h' O' c114 SgCS NgCS c113 c111 c112 SgF NgF z0 z1 z2 hu7 hq72) al0))⟩
      have c115 := (c108.keep K109)
      exact o_retA W109 hlk (v := (.ref b92)) hret rfl rfl (hb hy d2_137) (by decide) (by decide) ⟨b92, gb92, c115, sv110, rfl⟩
theorem rm189 (l : Launch) {Z a0} (hw : HW Z a0)  (h0 : Heap) (O0 : Old Z Z.heap.size h0) :
    CtrN l Z mn12 method_3_code 2 (some .int) [] (⟨0, 0, 0, 0⟩ : Room) #[iZ, (.int 2)] h0 [] (fun v h => v = some (.int (-1 : Int32))) := by
  refine CtrN.intro (L0 := #[vi 0, vi 2]) (plainFor_of_name pn0) O0 (own_entry rfl) ?_
  intro p e s m below meth c T0 hy hml hret hlk hnm W0
  refine o_iloadN W0 1 (hb hy d6_0) rfl rfl <| o_iloadN W0 2 (hb hy d6_1) rfl rfl <| o_icmpN W0 5 (hb hy d6_2) (XT.ii_ge_f (by decide)) rfl <| o_iconst W0 (v := (-1 : Int32)) 6 (hb hy d6_5) (by decide) rfl <| o_goto W0 19 (hb hy d6_6) (by decide) rfl ?_
  exact o_retI W0 hlk hret (hb hy d6_19) (by decide) (by decide) rfl
theorem rm190 (l : Launch) {Z a0} (hw : HW Z a0) (a1 a2 : Addr) (x1 x2 : Int32) (h0 : Heap) (O0 : Old Z Z.heap.size h0) (z0 : Exa Z h0 a1 s1) (z1 : Sv l Z h0 a1 (0 : Int32) []) (z2 : Exa Z h0 a2 s1) (z3 : Sv l Z h0 a2 ((own_cn x1) + (own_cn x2)) [((0 : Int32), x1), ((own_cn x1), x2)]) :
    CtrN l Z mn14 prog_10_method_4_code 6 (some .int) [] (⟨2, 0, 0, 27⟩ : Room) #[(.ref a1), (.ref a2)] h0 [] (fun v h => v = some (.int (-1 : Int32))) := by
  refine CtrN.intro (L0 := #[vr a1, vr a2, un, un, un, un]) (plainFor_of_name pn4) O0 (own_entry rfl) ?_
  intro p e s m below meth c T0 hy hml hret hlk hnm W0
  refine o_iconst W0 (v := 0) 1 (hb hy d7_0) rfl rfl <| o_istoreN W0 (L' := #[vr a1, vr a2, vi 0, un, un, un]) 2 (hb hy d7_1) rfl rfl <| o_iconst W0 (v := 0) 3 (hb hy d7_2) rfl rfl <| o_istoreN W0 (L' := #[vr a1, vr a2, vi 0, vi 0, un, un]) 4 (hb hy d7_3) rfl rfl <| o_iloadN W0 5 (hb hy d7_4) rfl rfl <| o_aloadN W0 6 (hb hy d7_5) rfl rfl rfl ?_
  refine o_virtualC W0 (w39 hw) (w40 hw) (o_nf W0 rfl (w42 hw)) (w42 hw) (w41 hw) (by decide) z0 (w43 hw) (w12 hw) (z1 _ W0.old (Keep.refl _ _)).1 1 0 0 (by decide) (by rw [hml]; rfl) (lenOf pd6 rfl) [iZ] rfl rfl 9 (hb hy d7_6) rfl rfl rfl all0 tri ?_
  intro v1 T1 h1 lo1 W1 K1 q1
  obtain rfl := q1.2.2
  show Gl _ _ _ _ _ _ _ _ [iZ, iZ]
  refine o_icmpY W1 68 (hb hy d7_9) (XT.ii_ge_t (by decide)) (by decide) rfl <| o_aloadN W1 69 (hb hy d7_68) rfl rfl rfl ?_
  have c2 := (z1.keep K1)
  have c3 := (z0.keep K1)
  refine o_virtualC W1 (w39 hw) (w40 hw) (o_nf W1 rfl (w42 hw)) (w42 hw) (w41 hw) (by decide) c3 (w43 hw) (w12 hw) (c2 _ W1.old (Keep.refl _ _)).1 0 0 0 (by decide) (by rw [hml]; rfl) (lenOf pd6 rfl) [] rfl rfl 72 (hb hy d7_69) rfl rfl rfl all0 tri ?_
  intro v4 T4 h4 lo4 W4 K4 q4
  obtain rfl := q4.2.2
  show Gl _ _ _ _ _ _ _ _ [iZ]
  refine o_iloadN W4 73 (hb hy d7_72) rfl rfl <| o_isub W4 (v := 0) 74 (hb hy d7_73) (by decide) rfl <| o_aloadN W4 75 (hb hy d7_74) rfl rfl rfl ?_
  have c5 := ((z2.keep K1).keep K4)
  have c6 := ((z3.keep K1).keep K4)
  refine o_virtualC W4 (w39 hw) (w40 hw) (o_nf W4 rfl (w42 hw)) (w42 hw) (w41 hw) (by decide) c5 (w43 hw) (w12 hw) (c6 _ W4.old (Keep.refl _ _)).1 1 0 0 (by decide) (by rw [hml]; rfl) (lenOf pd6 rfl) [iZ] rfl rfl 78 (hb hy d7_75) rfl rfl rfl all0 tri ?_
  intro v7 T7 h7 lo7 W7 K7 q7
  obtain rfl := q7.2.2
  show Gl _ _ _ _ _ _ _ _ [(.int ((own_cn x1) + (own_cn x2))), iZ]
  refine o_iloadN W7 79 (hb hy d7_78) rfl rfl <| o_isub W7 (v := (((own_cn x1) + (own_cn x2)) - 0)) 80 (hb hy d7_79) rfl rfl ?_
  refine o_staticC W7 (w50 hw) (w51 hw) (w52 hw) (w53 hw) (by decide) (rm67 l hw (((own_cn x1) + (own_cn x2)) - 0) h7 W7.old (show (0 : Int32) < (((own_cn x1) + (own_cn x2)) - 0) by obtain ⟨g0, e0, k0⟩ : ∃ g, own_cn x1 = g ∧ (g = 1 ∨ g = 2) := ⟨_, rfl, own_cn12 _⟩; obtain ⟨g1, e1, k1⟩ : ∃ g, own_cn x2 = g ∧ (g = 1 ∨ g = 2) := ⟨_, rfl, own_cn12 _⟩; rw [e0, e1]; rcases k0 with rfl | rfl <;> rcases k1 with rfl | rfl <;> decide)) 0 0 0 (by decide) (by rw [hml]; rfl) (lenOf pd5 rfl) [] rfl rfl 83 (hb hy d7_80) rfl rfl rfl all0 tri ?_
  intro v8 T8 h8 lo8 W8 K8 q8
  obtain rfl := q8.2.2
  show Gl _ _ _ _ _ _ _ _ [(.int (-1 : Int32))]
  exact o_retI W8 hlk hret (hb hy d7_83) (by decide) (by decide) rfl
theorem rm191 (l : Launch) {Z a0} (hw : HW Z a0)  (h0 : Heap) (O0 : Old Z Z.heap.size h0) :
    CtrN l Z mn12 method_3_code 2 (some .int) [] (⟨0, 0, 0, 0⟩ : Room) #[(.int 1), iZ] h0 [] (fun v h => v = some (.int 1)) := by
  refine CtrN.intro (L0 := #[vi 1, vi 0]) (plainFor_of_name pn0) O0 (own_entry rfl) ?_
  intro p e s m below meth c T0 hy hml hret hlk hnm W0
  refine o_iloadN W0 1 (hb hy d6_0) rfl rfl <| o_iloadN W0 2 (hb hy d6_1) rfl rfl <| o_icmpY W0 9 (hb hy d6_2) (XT.ii_ge_t (by decide)) (by decide) rfl <| o_iloadN W0 10 (hb hy d6_9) rfl rfl <| o_iloadN W0 11 (hb hy d6_10) rfl rfl <| o_icmpN W0 14 (hb hy d6_11) (XT.ii_le_f (by decide)) rfl ?_
  refine o_iconst W0 (v := 1) 15 (hb hy d6_14) rfl rfl <| o_goto W0 19 (hb hy d6_15) (by decide) rfl ?_
  exact o_retI W0 hlk hret (hb hy d6_19) (by decide) (by decide) rfl
theorem rm192 (l : Launch) {Z a0} (hw : HW Z a0) (x1 : Int32) (h0 : Heap) (O0 : Old Z Z.heap.size h0) (hc1 : ¬ (x1 < (0 : Int32))) (hc2 : ¬ (x1 = (0 : Int32))) :
    CtrN l Z mn13 jdk_33_method_40_code 2 (some .int) [] (⟨0, 0, 0, 0⟩ : Room) #[(.int x1), iZ] h0 [] (fun v h => v = some (.int 1)) := by
  refine CtrN.intro (L0 := #[vi x1, vi 0]) (plainFor_of_name pn3) O0 (own_entry rfl) ?_
  intro p e s m below meth c T0 hy hml hret hlk hnm W0
  refine o_iloadN W0 1 (hb hy d10_0) rfl rfl <| o_iloadN W0 2 (hb hy d10_1) rfl rfl <| o_icmpY W0 9 (hb hy d10_2) (XT.ii_ge_t hc1) (by decide) rfl <| o_iloadN W0 10 (hb hy d10_9) rfl rfl <| o_iloadN W0 11 (hb hy d10_10) rfl rfl <| o_icmpY W0 18 (hb hy d10_11) (XT.ii_ne_t hc2) (by decide) rfl ?_
  refine o_iconst W0 (v := 1) 19 (hb hy d10_18) rfl rfl ?_
  exact o_retI W0 hlk hret (hb hy d10_19) (by decide) (by decide) rfl
theorem rm193 (l : Launch) {Z a0} (hw : HW Z a0) (a1 a2 : Addr) (x1 : Int32) (h0 : Heap) (O0 : Old Z Z.heap.size h0) (z0 : Exa Z h0 a1 s1) (z1 : Sv l Z h0 a1 (own_cn x1) [((0 : Int32), x1)]) (z2 : Exa Z h0 a2 s1) (z3 : Sv l Z h0 a2 (0 : Int32) []) :
    CtrN l Z mn14 prog_10_method_4_code 6 (some .int) [] (⟨2, 0, 0, 27⟩ : Room) #[(.ref a1), (.ref a2)] h0 [] (fun v h => v = some (.int 1)) := by
  refine CtrN.intro (L0 := #[vr a1, vr a2, un, un, un, un]) (plainFor_of_name pn4) O0 (own_entry rfl) ?_
  intro p e s m below meth c T0 hy hml hret hlk hnm W0
  refine o_iconst W0 (v := 0) 1 (hb hy d7_0) rfl rfl <| o_istoreN W0 (L' := #[vr a1, vr a2, vi 0, un, un, un]) 2 (hb hy d7_1) rfl rfl <| o_iconst W0 (v := 0) 3 (hb hy d7_2) rfl rfl <| o_istoreN W0 (L' := #[vr a1, vr a2, vi 0, vi 0, un, un]) 4 (hb hy d7_3) rfl rfl <| o_iloadN W0 5 (hb hy d7_4) rfl rfl <| o_aloadN W0 6 (hb hy d7_5) rfl rfl rfl ?_
  refine o_virtualC W0 (w39 hw) (w40 hw) (o_nf W0 rfl (w42 hw)) (w42 hw) (w41 hw) (by decide) z0 (w43 hw) (w12 hw) (z1 _ W0.old (Keep.refl _ _)).1 1 0 0 (by decide) (by rw [hml]; rfl) (lenOf pd6 rfl) [iZ] rfl rfl 9 (hb hy d7_6) rfl rfl rfl all0 tri ?_
  intro v1 T1 h1 lo1 W1 K1 q1
  obtain rfl := q1.2.2
  show Gl _ _ _ _ _ _ _ _ [(.int (own_cn x1)), iZ]
  refine o_icmpN W1 12 (hb hy d7_9) (XT.ii_ge_f (show (0 : Int32) < (own_cn x1) by obtain ⟨g0, e0, k0⟩ : ∃ g, own_cn x1 = g ∧ (g = 1 ∨ g = 2) := ⟨_, rfl, own_cn12 _⟩; rw [e0]; rcases k0 with rfl | rfl <;> decide)) rfl <| o_iloadN W1 13 (hb hy d7_12) rfl rfl <| o_aloadN W1 14 (hb hy d7_13) rfl rfl rfl ?_
  have c2 := (z2.keep K1)
  have c3 := (z3.keep K1)
  refine o_virtualC W1 (w39 hw) (w40 hw) (o_nf W1 rfl (w42 hw)) (w42 hw) (w41 hw) (by decide) c2 (w43 hw) (w12 hw) (c3 _ W1.old (Keep.refl _ _)).1 1 0 0 (by decide) (by rw [hml]; rfl) (lenOf pd6 rfl) [iZ] rfl rfl 17 (hb hy d7_14) rfl rfl rfl all0 tri ?_
  intro v4 T4 h4 lo4 W4 K4 q4
  obtain rfl := q4.2.2
  show Gl _ _ _ _ _ _ _ _ [iZ, iZ]
  refine o_icmpY W4 68 (hb hy d7_17) (XT.ii_ge_t (by decide)) (by decide) rfl <| o_aloadN W4 69 (hb hy d7_68) rfl rfl rfl ?_
  have c5 := ((z1.keep K1).keep K4)
  have c6 := ((z0.keep K1).keep K4)
  refine o_virtualC W4 (w39 hw) (w40 hw) (o_nf W4 rfl (w42 hw)) (w42 hw) (w41 hw) (by decide) c6 (w43 hw) (w12 hw) (c5 _ W4.old (Keep.refl _ _)).1 0 0 0 (by decide) (by rw [hml]; rfl) (lenOf pd6 rfl) [] rfl rfl 72 (hb hy d7_69) rfl rfl rfl all0 tri ?_
  intro v7 T7 h7 lo7 W7 K7 q7
  obtain rfl := q7.2.2
  show Gl _ _ _ _ _ _ _ _ [(.int (own_cn x1))]
  refine o_iloadN W7 73 (hb hy d7_72) rfl rfl <| o_isub W7 (v := ((own_cn x1) - 0)) 74 (hb hy d7_73) rfl rfl <| o_aloadN W7 75 (hb hy d7_74) rfl rfl rfl ?_
  have c8 := ((c3.keep K4).keep K7)
  have c9 := ((c2.keep K4).keep K7)
  refine o_virtualC W7 (w39 hw) (w40 hw) (o_nf W7 rfl (w42 hw)) (w42 hw) (w41 hw) (by decide) c9 (w43 hw) (w12 hw) (c8 _ W7.old (Keep.refl _ _)).1 1 0 0 (by decide) (by rw [hml]; rfl) (lenOf pd6 rfl) [(.int ((own_cn x1) - 0))] rfl rfl 78 (hb hy d7_75) rfl rfl rfl all0 tri ?_
  intro v10 T10 h10 lo10 W10 K10 q10
  obtain rfl := q10.2.2
  show Gl _ _ _ _ _ _ _ _ [iZ, (.int ((own_cn x1) - 0))]
  refine o_iloadN W10 79 (hb hy d7_78) rfl rfl <| o_isub W10 (v := 0) 80 (hb hy d7_79) (by decide) rfl ?_
  refine o_staticC W10 (w50 hw) (w51 hw) (w52 hw) (w53 hw) (by decide) (rm192 l hw ((own_cn x1) - 0) h10 W10.old (show ¬ (((own_cn x1) - 0) < (0 : Int32)) by obtain ⟨g0, e0, k0⟩ : ∃ g, own_cn x1 = g ∧ (g = 1 ∨ g = 2) := ⟨_, rfl, own_cn12 _⟩; rw [e0]; rcases k0 with rfl | rfl <;> decide) (show ¬ (((own_cn x1) - 0) = (0 : Int32)) by obtain ⟨g0, e0, k0⟩ : ∃ g, own_cn x1 = g ∧ (g = 1 ∨ g = 2) := ⟨_, rfl, own_cn12 _⟩; rw [e0]; rcases k0 with rfl | rfl <;> decide)) 0 0 0 (by decide) (by rw [hml]; rfl) (lenOf pd5 rfl) [] rfl rfl 83 (hb hy d7_80) rfl rfl rfl all0 tri ?_
  intro v11 T11 h11 lo11 W11 K11 q11
  obtain rfl := q11.2.2
  show Gl _ _ _ _ _ _ _ _ [(.int 1)]
  exact o_retI W11 hlk hret (hb hy d7_83) (by decide) (by decide) rfl
theorem rm194 (l : Launch) {Z a0} (hw : HW Z a0)  (h0 : Heap) (O0 : Old Z Z.heap.size h0) :
    CtrN l Z mn15 method_2_code 1 (some .int) [] (⟨0, 0, 0, 0⟩ : Room) #[(.int 1)] h0 [] (fun v h => v = some (.int 1)) := by
  refine CtrN.intro (L0 := #[vi 1]) (plainFor_of_name pn0) O0 (own_entry rfl) ?_
  intro p e s m below meth c T0 hy hml hret hlk hnm W0
  refine o_iloadN W0 1 (hb hy d11_0) rfl rfl <| o_ifY W0 8 (hb hy d11_1) (XT.i0_ge_t (by decide)) (by decide) rfl <| o_iloadN W0 9 (hb hy d11_8) rfl rfl <| o_ifN W0 12 (hb hy d11_9) (XT.i0_le_f (by decide)) rfl <| o_iconst W0 (v := 1) 13 (hb hy d11_12) rfl rfl <| o_goto W0 17 (hb hy d11_13) (by decide) rfl ?_
  exact o_retI W0 hlk hret (hb hy d11_17) (by decide) (by decide) rfl
theorem rm195 (l : Launch) {Z a0} (hw : HW Z a0)  (h0 : Heap) (O0 : Old Z Z.heap.size h0) :
    CtrN l Z mn12 method_3_code 2 (some .int) [] (⟨0, 0, 0, 0⟩ : Room) #[(.int 1), (.int 1)] h0 [] (fun v h => v = some iZ) := by
  refine CtrN.intro (L0 := #[vi 1, vi 1]) (plainFor_of_name pn0) O0 (own_entry rfl) ?_
  intro p e s m below meth c T0 hy hml hret hlk hnm W0
  refine o_iloadN W0 1 (hb hy d6_0) rfl rfl <| o_iloadN W0 2 (hb hy d6_1) rfl rfl <| o_icmpY W0 9 (hb hy d6_2) (XT.ii_ge_t (by decide)) (by decide) rfl <| o_iloadN W0 10 (hb hy d6_9) rfl rfl <| o_iloadN W0 11 (hb hy d6_10) rfl rfl <| o_icmpY W0 18 (hb hy d6_11) (XT.ii_le_t (by decide)) (by decide) rfl ?_
  refine o_iconst W0 (v := 0) 19 (hb hy d6_18) rfl rfl ?_
  exact o_retI W0 hlk hret (hb hy d6_19) (by decide) (by decide) rfl
theorem rm196 (l : Launch) {Z a0} (hw : HW Z a0) (x1 x2 : Int32) (h0 : Heap) (O0 : Old Z Z.heap.size h0) (hc1 : ¬ (x1 < x2)) (hc2 : x1 = x2) :
    CtrN l Z mn13 jdk_33_method_40_code 2 (some .int) [] (⟨0, 0, 0, 0⟩ : Room) #[(.int x1), (.int x2)] h0 [] (fun v h => v = some iZ) := by
  refine CtrN.intro (L0 := #[vi x1, vi x2]) (plainFor_of_name pn3) O0 (own_entry rfl) ?_
  intro p e s m below meth c T0 hy hml hret hlk hnm W0
  refine o_iloadN W0 1 (hb hy d10_0) rfl rfl <| o_iloadN W0 2 (hb hy d10_1) rfl rfl <| o_icmpY W0 9 (hb hy d10_2) (XT.ii_ge_t hc1) (by decide) rfl <| o_iloadN W0 10 (hb hy d10_9) rfl rfl <| o_iloadN W0 11 (hb hy d10_10) rfl rfl <| o_icmpN W0 14 (hb hy d10_11) (XT.ii_ne_f hc2) rfl ?_
  refine o_iconst W0 (v := 0) 15 (hb hy d10_14) rfl rfl <| o_goto W0 19 (hb hy d10_15) (by decide) rfl ?_
  exact o_retI W0 hlk hret (hb hy d10_19) (by decide) (by decide) rfl
theorem rm197 (l : Launch) {Z a0} (hw : HW Z a0) (a1 a2 : Addr) (x1 x2 : Int32) (h0 : Heap) (O0 : Old Z Z.heap.size h0) (z0 : Exa Z h0 a1 s1) (z1 : Sv l Z h0 a1 (own_cn x1) [((0 : Int32), x1)]) (z2 : Exa Z h0 a2 s1) (z3 : Sv l Z h0 a2 (own_cn x2) [((0 : Int32), x2)]) (hc11 : x1 = x2) :
    CtrN l Z mn14 prog_10_method_4_code 6 (some .int) [] (⟨7, 0, 0, 104⟩ : Room) #[(.ref a1), (.ref a2)] h0 [] (fun v h => v = some iZ) := by
  refine CtrN.intro (L0 := #[vr a1, vr a2, un, un, un, un]) (plainFor_of_name pn4) O0 (own_entry rfl) ?_
  intro p e s m below meth c T0 hy hml hret hlk hnm W0
  refine o_iconst W0 (v := 0) 1 (hb hy d7_0) rfl rfl <| o_istoreN W0 (L' := #[vr a1, vr a2, vi 0, un, un, un]) 2 (hb hy d7_1) rfl rfl <| o_iconst W0 (v := 0) 3 (hb hy d7_2) rfl rfl <| o_istoreN W0 (L' := #[vr a1, vr a2, vi 0, vi 0, un, un]) 4 (hb hy d7_3) rfl rfl <| o_iloadN W0 5 (hb hy d7_4) rfl rfl <| o_aloadN W0 6 (hb hy d7_5) rfl rfl rfl ?_
  refine o_virtualC W0 (w39 hw) (w40 hw) (o_nf W0 rfl (w42 hw)) (w42 hw) (w41 hw) (by decide) z0 (w43 hw) (w12 hw) (z1 _ W0.old (Keep.refl _ _)).1 1 0 0 (by decide) (by rw [hml]; rfl) (lenOf pd6 rfl) [iZ] rfl rfl 9 (hb hy d7_6) rfl rfl rfl all0 tri ?_
  intro v1 T1 h1 lo1 W1 K1 q1
  obtain rfl := q1.2.2
  show Gl _ _ _ _ _ _ _ _ [(.int (own_cn x1)), iZ]
  refine o_icmpN W1 12 (hb hy d7_9) (XT.ii_ge_f (show (0 : Int32) < (own_cn x1) by obtain ⟨g0, e0, k0⟩ : ∃ g, own_cn x1 = g ∧ (g = 1 ∨ g = 2) := ⟨_, rfl, own_cn12 _⟩; rw [e0]; rcases k0 with rfl | rfl <;> decide)) rfl <| o_iloadN W1 13 (hb hy d7_12) rfl rfl <| o_aloadN W1 14 (hb hy d7_13) rfl rfl rfl ?_
  have c2 := (z2.keep K1)
  have c3 := (z3.keep K1)
  refine o_virtualC W1 (w39 hw) (w40 hw) (o_nf W1 rfl (w42 hw)) (w42 hw) (w41 hw) (by decide) c2 (w43 hw) (w12 hw) (c3 _ W1.old (Keep.refl _ _)).1 1 0 0 (by decide) (by rw [hml]; rfl) (lenOf pd6 rfl) [iZ] rfl rfl 17 (hb hy d7_14) rfl rfl rfl all0 tri ?_
  intro v4 T4 h4 lo4 W4 K4 q4
  obtain rfl := q4.2.2
  show Gl _ _ _ _ _ _ _ _ [(.int (own_cn x2)), iZ]
  refine o_icmpN W4 20 (hb hy d7_17) (XT.ii_ge_f (show (0 : Int32) < (own_cn x2) by obtain ⟨g0, e0, k0⟩ : ∃ g, own_cn x2 = g ∧ (g = 1 ∨ g = 2) := ⟨_, rfl, own_cn12 _⟩; rw [e0]; rcases k0 with rfl | rfl <;> decide)) rfl <| o_aloadN W4 21 (hb hy d7_20) rfl rfl rfl <| o_iloadN W4 22 (hb hy d7_21) rfl rfl ?_
  have c5 := ((z1.keep K1).keep K4)
  have c6 := ((z0.keep K1).keep K4)
  refine o_virtualC W4 (w68 hw) (w69 hw) (o_nf W4 rfl (w71 hw)) (w71 hw) (w70 hw) (by decide) c6 (w72 hw) (w12 hw) (al_h (c5 _ W4.old (Keep.refl _ _)).2) 0 0 0 (by decide) (by rw [hml]; rfl) (lenOf pd8 rfl) [] rfl rfl 25 (hb hy d7_22) rfl rfl rfl all0 tri ?_
  intro v7 T7 h7 lo7 W7 K7 q7
  obtain rfl := q7.2.2
  show Gl _ _ _ _ _ _ _ _ [(.int x1)]
  refine o_istore W7 (L' := #[vr a1, vr a2, vi 0, vi 0, vi x1, un]) 27 (hb hy d7_25) rfl rfl <| o_aloadN W7 28 (hb hy d7_27) rfl rfl rfl <| o_iloadN W7 29 (hb hy d7_28) rfl rfl ?_
  have c8 := ((c3.keep K4).keep K7)
  have c9 := ((c2.keep K4).keep K7)
  refine o_virtualC W7 (w68 hw) (w69 hw) (o_nf W7 rfl (w71 hw)) (w71 hw) (w70 hw) (by decide) c9 (w72 hw) (w12 hw) (al_h (c8 _ W7.old (Keep.refl _ _)).2) 0 0 0 (by decide) (by rw [hml]; rfl) (lenOf pd8 rfl) [] rfl rfl 32 (hb hy d7_29) rfl rfl rfl all0 tri ?_
  intro v10 T10 h10 lo10 W10 K10 q10
  obtain rfl := q10.2.2
  show Gl _ _ _ _ _ _ _ _ [(.int x2)]
  refine o_istore W10 (L' := #[vr a1, vr a2, vi 0, vi 0, vi x1, vi x2]) 34 (hb hy d7_32) rfl rfl <| o_iload W10 36 (hb hy d7_34) rfl rfl <| o_iload W10 38 (hb hy d7_36) rfl rfl <| o_icmpY W10 49 (hb hy d7_38) (XT.ii_eq_t hc11) (by decide) rfl <| o_iloadN W10 50 (hb hy d7_49) rfl rfl <| o_iload W10 52 (hb hy d7_50) rfl rfl ?_
  refine o_staticC W10 (w113 hw) (w114 hw) (w115 hw) (w116 hw) (by decide) (rm3 l hw x1 h10 W10.old ) 1 0 0 (by decide) (by rw [hml]; rfl) (lenOf pd8 rfl) [iZ] rfl rfl 55 (hb hy d7_52) rfl rfl rfl all0 tri ?_
  intro v12 T12 h12 lo12 W12 K12 q12
  obtain rfl := q12.2.2
  show Gl _ _ _ _ _ _ _ _ [(.int (own_cn x1)), iZ]
  refine o_iadd W12 (v := (own_cn x1)) 56 (hb hy d7_55) (own_z0 _) rfl <| o_istoreN W12 (L' := #[vr a1, vr a2, vi (own_cn x1), vi 0, vi x1, vi x2]) 57 (hb hy d7_56) rfl rfl <| o_iloadN W12 58 (hb hy d7_57) rfl rfl <| o_iload W12 60 (hb hy d7_58) rfl rfl ?_
  refine o_staticC W12 (w113 hw) (w114 hw) (w115 hw) (w116 hw) (by decide) (rm3 l hw x2 h12 W12.old ) 1 0 0 (by decide) (by rw [hml]; rfl) (lenOf pd8 rfl) [iZ] rfl rfl 63 (hb hy d7_60) rfl rfl rfl all0 tri ?_
  intro v13 T13 h13 lo13 W13 K13 q13
  obtain rfl := q13.2.2
  show Gl _ _ _ _ _ _ _ _ [(.int (own_cn x2)), iZ]
  refine o_iadd W13 (v := (own_cn x2)) 64 (hb hy d7_63) (own_z0 _) rfl <| o_istoreN W13 (L' := #[vr a1, vr a2, vi (own_cn x1), vi (own_cn x2), vi x1, vi x2]) 65 (hb hy d7_64) rfl rfl <| o_goto W13 4 (hb hy d7_65) (by decide) rfl <| o_iloadN W13 5 (hb hy d7_4) rfl rfl <| o_aloadN W13 6 (hb hy d7_5) rfl rfl rfl ?_
  have c14 := ((((c5.keep K7).keep K10).keep K12).keep K13)
  have c15 := ((((c6.keep K7).keep K10).keep K12).keep K13)
  refine o_virtualC W13 (w39 hw) (w40 hw) (o_nf W13 rfl (w42 hw)) (w42 hw) (w41 hw) (by decide) c15 (w43 hw) (w12 hw) (c14 _ W13.old (Keep.refl _ _)).1 1 0 0 (by decide) (by rw [hml]; rfl) (lenOf pd6 rfl) [(.int (own_cn x1))] rfl rfl 9 (hb hy d7_6) rfl rfl rfl all0 tri ?_
  intro v16 T16 h16 lo16 W16 K16 q16
  obtain rfl := q16.2.2
  show Gl _ _ _ _ _ _ _ _ [(.int (own_cn x1)), (.int (own_cn x1))]
  refine o_icmpY W16 68 (hb hy d7_9) (XT.ii_ge_t (own_irr _)) (by decide) rfl <| o_aloadN W16 69 (hb hy d7_68) rfl rfl rfl ?_
  have c17 := (c14.keep K16)
  have c18 := (c15.keep K16)
  refine o_virtualC W16 (w39 hw) (w40 hw) (o_nf W16 rfl (w42 hw)) (w42 hw) (w41 hw) (by decide) c18 (w43 hw) (w12 hw) (c17 _ W16.old (Keep.refl _ _)).1 0 0 0 (by decide) (by rw [hml]; rfl) (lenOf pd6 rfl) [] rfl rfl 72 (hb hy d7_69) rfl rfl rfl all0 tri ?_
  intro v19 T19 h19 lo19 W19 K19 q19
  obtain rfl := q19.2.2
  show Gl _ _ _ _ _ _ _ _ [(.int (own_cn x1))]
  refine o_iloadN W19 73 (hb hy d7_72) rfl rfl <| o_isub W19 (v := ((own_cn x1) - (own_cn x1))) 74 (hb hy d7_73) rfl rfl <| o_aloadN W19 75 (hb hy d7_74) rfl rfl rfl ?_
  have c20 := (((((c8.keep K10).keep K12).keep K13).keep K16).keep K19)
  have c21 := (((((c9.keep K10).keep K12).keep K13).keep K16).keep K19)
  refine o_virtualC W19 (w39 hw) (w40 hw) (o_nf W19 rfl (w42 hw)) (w42 hw) (w41 hw) (by decide) c21 (w43 hw) (w12 hw) (c20 _ W19.old (Keep.refl _ _)).1 1 0 0 (by decide) (by rw [hml]; rfl) (lenOf pd6 rfl) [(.int ((own_cn x1) - (own_cn x1)))] rfl rfl 78 (hb hy d7_75) rfl rfl rfl all0 tri ?_
  intro v22 T22 h22 lo22 W22 K22 q22
  obtain rfl := q22.2.2
  show Gl _ _ _ _ _ _ _ _ [(.int (own_cn x2)), (.int ((own_cn x1) - (own_cn x1)))]
  refine o_iloadN W22 79 (hb hy d7_78) rfl rfl <| o_isub W22 (v := ((own_cn x2) - (own_cn x2))) 80 (hb hy d7_79) rfl rfl ?_
  refine o_staticC W22 (w50 hw) (w51 hw) (w52 hw) (w53 hw) (by decide) (rm196 l hw ((own_cn x1) - (own_cn x1)) ((own_cn x2) - (own_cn x2)) h22 W22.old (show ¬ (((own_cn x1) - (own_cn x1)) < ((own_cn x2) - (own_cn x2))) by obtain ⟨g0, e0, k0⟩ : ∃ g, own_cn x1 = g ∧ (g = 1 ∨ g = 2) := ⟨_, rfl, own_cn12 _⟩; obtain ⟨g1, e1, k1⟩ : ∃ g, own_cn x2 = g ∧ (g = 1 ∨ g = 2) := ⟨_, rfl, own_cn12 _⟩; rw [e0, e1]; rcases k0 with rfl | rfl <;> rcases k1 with rfl | rfl <;> decide) (show ((own_cn x1) - (own_cn x1)) = ((own_cn x2) - (own_cn x2)) by obtain ⟨g0, e0, k0⟩ : ∃ g, own_cn x1 = g ∧ (g = 1 ∨ g = 2) := ⟨_, rfl, own_cn12 _⟩; obtain ⟨g1, e1, k1⟩ : ∃ g, own_cn x2 = g ∧ (g = 1 ∨ g = 2) := ⟨_, rfl, own_cn12 _⟩; rw [e0, e1]; rcases k0 with rfl | rfl <;> rcases k1 with rfl | rfl <;> decide)) 0 0 0 (by decide) (by rw [hml]; rfl) (lenOf pd5 rfl) [] rfl rfl 83 (hb hy d7_80) rfl rfl rfl all0 tri ?_
  intro v23 T23 h23 lo23 W23 K23 q23
  obtain rfl := q23.2.2
  show Gl _ _ _ _ _ _ _ _ [iZ]
  exact o_retI W23 hlk hret (hb hy d7_83) (by decide) (by decide) rfl
theorem rm198 (l : Launch) {Z a0} (hw : HW Z a0) (x1 x2 : Int32) (h0 : Heap) (O0 : Old Z Z.heap.size h0) (hc1 : ¬ (x1 < x2)) (hc2 : x2 < x1) :
    CtrN l Z mn12 method_3_code 2 (some .int) [] (⟨0, 0, 0, 0⟩ : Room) #[(.int x1), (.int x2)] h0 [] (fun v h => v = some (.int 1)) := by
  refine CtrN.intro (L0 := #[vi x1, vi x2]) (plainFor_of_name pn0) O0 (own_entry rfl) ?_
  intro p e s m below meth c T0 hy hml hret hlk hnm W0
  refine o_iloadN W0 1 (hb hy d6_0) rfl rfl <| o_iloadN W0 2 (hb hy d6_1) rfl rfl <| o_icmpY W0 9 (hb hy d6_2) (XT.ii_ge_t hc1) (by decide) rfl <| o_iloadN W0 10 (hb hy d6_9) rfl rfl <| o_iloadN W0 11 (hb hy d6_10) rfl rfl <| o_icmpN W0 14 (hb hy d6_11) (XT.ii_le_f hc2) rfl ?_
  refine o_iconst W0 (v := 1) 15 (hb hy d6_14) rfl rfl <| o_goto W0 19 (hb hy d6_15) (by decide) rfl ?_
  exact o_retI W0 hlk hret (hb hy d6_19) (by decide) (by decide) rfl
theorem rm199 (l : Launch) {Z a0} (hw : HW Z a0) (x1 x2 : Int32) (h0 : Heap) (O0 : Old Z Z.heap.size h0) (hc1 : ¬ (x1 < x2)) (hc2 : ¬ (x1 = x2)) :
    CtrN l Z mn13 jdk_33_method_40_code 2 (some .int) [] (⟨0, 0, 0, 0⟩ : Room) #[(.int x1), (.int x2)] h0 [] (fun v h => v = some (.int 1)) := by
  refine CtrN.intro (L0 := #[vi x1, vi x2]) (plainFor_of_name pn3) O0 (own_entry rfl) ?_
  intro p e s m below meth c T0 hy hml hret hlk hnm W0
  refine o_iloadN W0 1 (hb hy d10_0) rfl rfl <| o_iloadN W0 2 (hb hy d10_1) rfl rfl <| o_icmpY W0 9 (hb hy d10_2) (XT.ii_ge_t hc1) (by decide) rfl <| o_iloadN W0 10 (hb hy d10_9) rfl rfl <| o_iloadN W0 11 (hb hy d10_10) rfl rfl <| o_icmpY W0 18 (hb hy d10_11) (XT.ii_ne_t hc2) (by decide) rfl ?_
  refine o_iconst W0 (v := 1) 19 (hb hy d10_18) rfl rfl ?_
  exact o_retI W0 hlk hret (hb hy d10_19) (by decide) (by decide) rfl
theorem rm200 (l : Launch) {Z a0} (hw : HW Z a0) (a1 a2 : Addr) (x1 x2 : Int32) (h0 : Heap) (O0 : Old Z Z.heap.size h0) (z0 : Exa Z h0 a1 s1) (z1 : Sv l Z h0 a1 (own_cn x1) [((0 : Int32), x1)]) (z2 : Exa Z h0 a2 s1) (z3 : Sv l Z h0 a2 (own_cn x2) [((0 : Int32), x2)]) (hc11 : ¬ (x1 = x2)) (hc12 : ¬ (x1 < x2)) :
    CtrN l Z mn14 prog_10_method_4_code 6 (some .int) [] (⟨7, 0, 0, 104⟩ : Room) #[(.ref a1), (.ref a2)] h0 [] (fun v h => v = some (.int 1)) := by
  refine CtrN.intro (L0 := #[vr a1, vr a2, un, un, un, un]) (plainFor_of_name pn4) O0 (own_entry rfl) ?_
  intro p e s m below meth c T0 hy hml hret hlk hnm W0
  refine o_iconst W0 (v := 0) 1 (hb hy d7_0) rfl rfl <| o_istoreN W0 (L' := #[vr a1, vr a2, vi 0, un, un, un]) 2 (hb hy d7_1) rfl rfl <| o_iconst W0 (v := 0) 3 (hb hy d7_2) rfl rfl <| o_istoreN W0 (L' := #[vr a1, vr a2, vi 0, vi 0, un, un]) 4 (hb hy d7_3) rfl rfl <| o_iloadN W0 5 (hb hy d7_4) rfl rfl <| o_aloadN W0 6 (hb hy d7_5) rfl rfl rfl ?_
  refine o_virtualC W0 (w39 hw) (w40 hw) (o_nf W0 rfl (w42 hw)) (w42 hw) (w41 hw) (by decide) z0 (w43 hw) (w12 hw) (z1 _ W0.old (Keep.refl _ _)).1 1 0 0 (by decide) (by rw [hml]; rfl) (lenOf pd6 rfl) [iZ] rfl rfl 9 (hb hy d7_6) rfl rfl rfl all0 tri ?_
  intro v1 T1 h1 lo1 W1 K1 q1
  obtain rfl := q1.2.2
  show Gl _ _ _ _ _ _ _ _ [(.int (own_cn x1)), iZ]
  refine o_icmpN W1 12 (hb hy d7_9) (XT.ii_ge_f (show (0 : Int32) < (own_cn x1) by obtain ⟨g0, e0, k0⟩ : ∃ g, own_cn x1 = g ∧ (g = 1 ∨ g = 2) := ⟨_, rfl, own_cn12 _⟩; rw [e0]; rcases k0 with rfl | rfl <;> decide)) rfl <| o_iloadN W1 13 (hb hy d7_12) rfl rfl <| o_aloadN W1 14 (hb hy d7_13) rfl rfl rfl ?_
  have c2 := (z2.keep K1)
  have c3 := (z3.keep K1)
  refine o_virtualC W1 (w39 hw) (w40 hw) (o_nf W1 rfl (w42 hw)) (w42 hw) (w41 hw) (by decide) c2 (w43 hw) (w12 hw) (c3 _ W1.old (Keep.refl _ _)).1 1 0 0 (by decide) (by rw [hml]; rfl) (lenOf pd6 rfl) [iZ] rfl rfl 17 (hb hy d7_14) rfl rfl rfl all0 tri ?_
  intro v4 T4 h4 lo4 W4 K4 q4
  obtain rfl := q4.2.2
  show Gl _ _ _ _ _ _ _ _ [(.int (own_cn x2)), iZ]
  refine o_icmpN W4 20 (hb hy d7_17) (XT.ii_ge_f (show (0 : Int32) < (own_cn x2) by obtain ⟨g0, e0, k0⟩ : ∃ g, own_cn x2 = g ∧ (g = 1 ∨ g = 2) := ⟨_, rfl, own_cn12 _⟩; rw [e0]; rcases k0 with rfl | rfl <;> decide)) rfl <| o_aloadN W4 21 (hb hy d7_20) rfl rfl rfl <| o_iloadN W4 22 (hb hy d7_21) rfl rfl ?_
  have c5 := ((z1.keep K1).keep K4)
  have c6 := ((z0.keep K1).keep K4)
  refine o_virtualC W4 (w68 hw) (w69 hw) (o_nf W4 rfl (w71 hw)) (w71 hw) (w70 hw) (by decide) c6 (w72 hw) (w12 hw) (al_h (c5 _ W4.old (Keep.refl _ _)).2) 0 0 0 (by decide) (by rw [hml]; rfl) (lenOf pd8 rfl) [] rfl rfl 25 (hb hy d7_22) rfl rfl rfl all0 tri ?_
  intro v7 T7 h7 lo7 W7 K7 q7
  obtain rfl := q7.2.2
  show Gl _ _ _ _ _ _ _ _ [(.int x1)]
  refine o_istore W7 (L' := #[vr a1, vr a2, vi 0, vi 0, vi x1, un]) 27 (hb hy d7_25) rfl rfl <| o_aloadN W7 28 (hb hy d7_27) rfl rfl rfl <| o_iloadN W7 29 (hb hy d7_28) rfl rfl ?_
  have c8 := ((c3.keep K4).keep K7)
  have c9 := ((c2.keep K4).keep K7)
  refine o_virtualC W7 (w68 hw) (w69 hw) (o_nf W7 rfl (w71 hw)) (w71 hw) (w70 hw) (by decide) c9 (w72 hw) (w12 hw) (al_h (c8 _ W7.old (Keep.refl _ _)).2) 0 0 0 (by decide) (by rw [hml]; rfl) (lenOf pd8 rfl) [] rfl rfl 32 (hb hy d7_29) rfl rfl rfl all0 tri ?_
  intro v10 T10 h10 lo10 W10 K10 q10
  obtain rfl := q10.2.2
  show Gl _ _ _ _ _ _ _ _ [(.int x2)]
  refine o_istore W10 (L' := #[vr a1, vr a2, vi 0, vi 0, vi x1, vi x2]) 34 (hb hy d7_32) rfl rfl <| o_iload W10 36 (hb hy d7_34) rfl rfl <| o_iload W10 38 (hb hy d7_36) rfl rfl <| o_icmpN W10 41 (hb hy d7_38) (XT.ii_eq_f hc11) rfl <| o_iload W10 43 (hb hy d7_41) rfl rfl <| o_iload W10 45 (hb hy d7_43) rfl rfl ?_
  refine o_staticC W10 (w50 hw) (w51 hw) (w52 hw) (w53 hw) (by decide) (rm199 l hw x1 x2 h10 W10.old hc12 hc11) 0 0 0 (by decide) (by rw [hml]; rfl) (lenOf pd5 rfl) [] rfl rfl 48 (hb hy d7_45) rfl rfl rfl all0 tri ?_
  intro v13 T13 h13 lo13 W13 K13 q13
  obtain rfl := q13.2.2
  show Gl _ _ _ _ _ _ _ _ [(.int 1)]
  exact o_retI W13 hlk hret (hb hy d7_48) (by decide) (by decide) rfl
theorem rm201 (l : Launch) {Z a0} (hw : HW Z a0) (x1 x2 : Int32) (h0 : Heap) (O0 : Old Z Z.heap.size h0) (hc1 : x1 < x2) :
    CtrN l Z mn12 method_3_code 2 (some .int) [] (⟨0, 0, 0, 0⟩ : Room) #[(.int x1), (.int x2)] h0 [] (fun v h => v = some (.int (-1 : Int32))) := by
  refine CtrN.intro (L0 := #[vi x1, vi x2]) (plainFor_of_name pn0) O0 (own_entry rfl) ?_
  intro p e s m below meth c T0 hy hml hret hlk hnm W0
  refine o_iloadN W0 1 (hb hy d6_0) rfl rfl <| o_iloadN W0 2 (hb hy d6_1) rfl rfl <| o_icmpN W0 5 (hb hy d6_2) (XT.ii_ge_f hc1) rfl <| o_iconst W0 (v := (-1 : Int32)) 6 (hb hy d6_5) (by decide) rfl <| o_goto W0 19 (hb hy d6_6) (by decide) rfl ?_
  exact o_retI W0 hlk hret (hb hy d6_19) (by decide) (by decide) rfl
theorem rm202 (l : Launch) {Z a0} (hw : HW Z a0) (x1 x2 : Int32) (h0 : Heap) (O0 : Old Z Z.heap.size h0) (hc1 : x1 < x2) :
    CtrN l Z mn13 jdk_33_method_40_code 2 (some .int) [] (⟨0, 0, 0, 0⟩ : Room) #[(.int x1), (.int x2)] h0 [] (fun v h => v = some (.int (-1 : Int32))) := by
  refine CtrN.intro (L0 := #[vi x1, vi x2]) (plainFor_of_name pn3) O0 (own_entry rfl) ?_
  intro p e s m below meth c T0 hy hml hret hlk hnm W0
  refine o_iloadN W0 1 (hb hy d10_0) rfl rfl <| o_iloadN W0 2 (hb hy d10_1) rfl rfl <| o_icmpN W0 5 (hb hy d10_2) (XT.ii_ge_f hc1) rfl <| o_iconst W0 (v := (-1 : Int32)) 6 (hb hy d10_5) (by decide) rfl <| o_goto W0 19 (hb hy d10_6) (by decide) rfl ?_
  exact o_retI W0 hlk hret (hb hy d10_19) (by decide) (by decide) rfl
theorem rm203 (l : Launch) {Z a0} (hw : HW Z a0) (a1 a2 : Addr) (x1 x2 : Int32) (h0 : Heap) (O0 : Old Z Z.heap.size h0) (z0 : Exa Z h0 a1 s1) (z1 : Sv l Z h0 a1 (own_cn x1) [((0 : Int32), x1)]) (z2 : Exa Z h0 a2 s1) (z3 : Sv l Z h0 a2 (own_cn x2) [((0 : Int32), x2)]) (hc11 : ¬ (x1 = x2)) (hc12 : x1 < x2) :
    CtrN l Z mn14 prog_10_method_4_code 6 (some .int) [] (⟨7, 0, 0, 104⟩ : Room) #[(.ref a1), (.ref a2)] h0 [] (fun v h => v = some (.int (-1 : Int32))) := by
  refine CtrN.intro (L0 := #[vr a1, vr a2, un, un, un, un]) (plainFor_of_name pn4) O0 (own_entry rfl) ?_
  intro p e s m below meth c T0 hy hml hret hlk hnm W0
  refine o_iconst W0 (v := 0) 1 (hb hy d7_0) rfl rfl <| o_istoreN W0 (L' := #[vr a1, vr a2, vi 0, un, un, un]) 2 (hb hy d7_1) rfl rfl <| o_iconst W0 (v := 0) 3 (hb hy d7_2) rfl rfl <| o_istoreN W0 (L' := #[vr a1, vr a2, vi 0, vi 0, un, un]) 4 (hb hy d7_3) rfl rfl <| o_iloadN W0 5 (hb hy d7_4) rfl rfl <| o_aloadN W0 6 (hb hy d7_5) rfl rfl rfl ?_
  refine o_virtualC W0 (w39 hw) (w40 hw) (o_nf W0 rfl (w42 hw)) (w42 hw) (w41 hw) (by decide) z0 (w43 hw) (w12 hw) (z1 _ W0.old (Keep.refl _ _)).1 1 0 0 (by decide) (by rw [hml]; rfl) (lenOf pd6 rfl) [iZ] rfl rfl 9 (hb hy d7_6) rfl rfl rfl all0 tri ?_
  intro v1 T1 h1 lo1 W1 K1 q1
  obtain rfl := q1.2.2
  show Gl _ _ _ _ _ _ _ _ [(.int (own_cn x1)), iZ]
  refine o_icmpN W1 12 (hb hy d7_9) (XT.ii_ge_f (show (0 : Int32) < (own_cn x1) by obtain ⟨g0, e0, k0⟩ : ∃ g, own_cn x1 = g ∧ (g = 1 ∨ g = 2) := ⟨_, rfl, own_cn12 _⟩; rw [e0]; rcases k0 with rfl | rfl <;> decide)) rfl <| o_iloadN W1 13 (hb hy d7_12) rfl rfl <| o_aloadN W1 14 (hb hy d7_13) rfl rfl rfl ?_
  have c2 := (z2.keep K1)
  have c3 := (z3.keep K1)
  refine o_virtualC W1 (w39 hw) (w40 hw) (o_nf W1 rfl (w42 hw)) (w42 hw) (w41 hw) (by decide) c2 (w43 hw) (w12 hw) (c3 _ W1.old (Keep.refl _ _)).1 1 0 0 (by decide) (by rw [hml]; rfl) (lenOf pd6 rfl) [iZ] rfl rfl 17 (hb hy d7_14) rfl rfl rfl all0 tri ?_
  intro v4 T4 h4 lo4 W4 K4 q4
  obtain rfl := q4.2.2
  show Gl _ _ _ _ _ _ _ _ [(.int (own_cn x2)), iZ]
  refine o_icmpN W4 20 (hb hy d7_17) (XT.ii_ge_f (show (0 : Int32) < (own_cn x2) by obtain ⟨g0, e0, k0⟩ : ∃ g, own_cn x2 = g ∧ (g = 1 ∨ g = 2) := ⟨_, rfl, own_cn12 _⟩; rw [e0]; rcases k0 with rfl | rfl <;> decide)) rfl <| o_aloadN W4 21 (hb hy d7_20) rfl rfl rfl <| o_iloadN W4 22 (hb hy d7_21) rfl rfl ?_
  have c5 := ((z1.keep K1).keep K4)
  have c6 := ((z0.keep K1).keep K4)
  refine o_virtualC W4 (w68 hw) (w69 hw) (o_nf W4 rfl (w71 hw)) (w71 hw) (w70 hw) (by decide) c6 (w72 hw) (w12 hw) (al_h (c5 _ W4.old (Keep.refl _ _)).2) 0 0 0 (by decide) (by rw [hml]; rfl) (lenOf pd8 rfl) [] rfl rfl 25 (hb hy d7_22) rfl rfl rfl all0 tri ?_
  intro v7 T7 h7 lo7 W7 K7 q7
  obtain rfl := q7.2.2
  show Gl _ _ _ _ _ _ _ _ [(.int x1)]
  refine o_istore W7 (L' := #[vr a1, vr a2, vi 0, vi 0, vi x1, un]) 27 (hb hy d7_25) rfl rfl <| o_aloadN W7 28 (hb hy d7_27) rfl rfl rfl <| o_iloadN W7 29 (hb hy d7_28) rfl rfl ?_
  have c8 := ((c3.keep K4).keep K7)
  have c9 := ((c2.keep K4).keep K7)
  refine o_virtualC W7 (w68 hw) (w69 hw) (o_nf W7 rfl (w71 hw)) (w71 hw) (w70 hw) (by decide) c9 (w72 hw) (w12 hw) (al_h (c8 _ W7.old (Keep.refl _ _)).2) 0 0 0 (by decide) (by rw [hml]; rfl) (lenOf pd8 rfl) [] rfl rfl 32 (hb hy d7_29) rfl rfl rfl all0 tri ?_
  intro v10 T10 h10 lo10 W10 K10 q10
  obtain rfl := q10.2.2
  show Gl _ _ _ _ _ _ _ _ [(.int x2)]
  refine o_istore W10 (L' := #[vr a1, vr a2, vi 0, vi 0, vi x1, vi x2]) 34 (hb hy d7_32) rfl rfl <| o_iload W10 36 (hb hy d7_34) rfl rfl <| o_iload W10 38 (hb hy d7_36) rfl rfl <| o_icmpN W10 41 (hb hy d7_38) (XT.ii_eq_f hc11) rfl <| o_iload W10 43 (hb hy d7_41) rfl rfl <| o_iload W10 45 (hb hy d7_43) rfl rfl ?_
  refine o_staticC W10 (w50 hw) (w51 hw) (w52 hw) (w53 hw) (by decide) (rm202 l hw x1 x2 h10 W10.old hc12) 0 0 0 (by decide) (by rw [hml]; rfl) (lenOf pd5 rfl) [] rfl rfl 48 (hb hy d7_45) rfl rfl rfl all0 tri ?_
  intro v13 T13 h13 lo13 W13 K13 q13
  obtain rfl := q13.2.2
  show Gl _ _ _ _ _ _ _ _ [(.int (-1 : Int32))]
  exact o_retI W13 hlk hret (hb hy d7_48) (by decide) (by decide) rfl
theorem rm204 (l : Launch) {Z a0} (hw : HW Z a0)  (h0 : Heap) (O0 : Old Z Z.heap.size h0) :
    CtrN l Z mn12 method_3_code 2 (some .int) [] (⟨0, 0, 0, 0⟩ : Room) #[(.int 1), (.int 2)] h0 [] (fun v h => v = some (.int (-1 : Int32))) := by
  refine CtrN.intro (L0 := #[vi 1, vi 2]) (plainFor_of_name pn0) O0 (own_entry rfl) ?_
  intro p e s m below meth c T0 hy hml hret hlk hnm W0
  refine o_iloadN W0 1 (hb hy d6_0) rfl rfl <| o_iloadN W0 2 (hb hy d6_1) rfl rfl <| o_icmpN W0 5 (hb hy d6_2) (XT.ii_ge_f (by decide)) rfl <| o_iconst W0 (v := (-1 : Int32)) 6 (hb hy d6_5) (by decide) rfl <| o_goto W0 19 (hb hy d6_6) (by decide) rfl ?_
  exact o_retI W0 hlk hret (hb hy d6_19) (by decide) (by decide) rfl
theorem rm205 (l : Launch) {Z a0} (hw : HW Z a0) (a1 a2 : Addr) (x1 x2 x3 : Int32) (h0 : Heap) (O0 : Old Z Z.heap.size h0) (z0 : Exa Z h0 a1 s1) (z1 : Sv l Z h0 a1 (own_cn x1) [((0 : Int32), x1)]) (z2 : Exa Z h0 a2 s1) (z3 : Sv l Z h0 a2 ((own_cn x2) + (own_cn x3)) [((0 : Int32), x2), ((own_cn x2), x3)]) (hc11 : x1 = x2) :
    CtrN l Z mn14 prog_10_method_4_code 6 (some .int) [] (⟨7, 0, 0, 104⟩ : Room) #[(.ref a1), (.ref a2)] h0 [] (fun v h => v = some (.int (-1 : Int32))) := by
  refine CtrN.intro (L0 := #[vr a1, vr a2, un, un, un, un]) (plainFor_of_name pn4) O0 (own_entry rfl) ?_
  intro p e s m below meth c T0 hy hml hret hlk hnm W0
  refine o_iconst W0 (v := 0) 1 (hb hy d7_0) rfl rfl <| o_istoreN W0 (L' := #[vr a1, vr a2, vi 0, un, un, un]) 2 (hb hy d7_1) rfl rfl <| o_iconst W0 (v := 0) 3 (hb hy d7_2) rfl rfl <| o_istoreN W0 (L' := #[vr a1, vr a2, vi 0, vi 0, un, un]) 4 (hb hy d7_3) rfl rfl <| o_iloadN W0 5 (hb hy d7_4) rfl rfl <| o_aloadN W0 6 (hb hy d7_5) rfl rfl rfl ?_
  refine o_virtualC W0 (w39 hw) (w40 hw) (o_nf W0 rfl (w42 hw)) (w42 hw) (w41 hw) (by decide) z0 (w43 hw) (w12 hw) (z1 _ W0.old (Keep.refl _ _)).1 1 0 0 (by decide) (by rw [hml]; rfl) (lenOf pd6 rfl) [iZ] rfl rfl 9 (hb hy d7_6) rfl rfl rfl all0 tri ?_
  intro v1 T1 h1 lo1 W1 K1 q1
  obtain rfl := q1.2.2
  show Gl _ _ _ _ _ _ _ _ [(.int (own_cn x1)), iZ]
  refine o_icmpN W1 12 (hb hy d7_9) (XT.ii_ge_f (show (0 : Int32) < (own_cn x1) by obtain ⟨g0, e0, k0⟩ : ∃ g, own_cn x1 = g ∧ (g = 1 ∨ g = 2) := ⟨_, rfl, own_cn12 _⟩; rw [e0]; rcases k0 with rfl | rfl <;> decide)) rfl <| o_iloadN W1 13 (hb hy d7_12) rfl rfl <| o_aloadN W1 14 (hb hy d7_13) rfl rfl rfl ?_
  have c2 := (z2.keep K1)
  have c3 := (z3.keep K1)
  refine o_virtualC W1 (w39 hw) (w40 hw) (o_nf W1 rfl (w42 hw)) (w42 hw) (w41 hw) (by decide) c2 (w43 hw) (w12 hw) (c3 _ W1.old (Keep.refl _ _)).1 1 0 0 (by decide) (by rw [hml]; rfl) (lenOf pd6 rfl) [iZ] rfl rfl 17 (hb hy d7_14) rfl rfl rfl all0 tri ?_
  intro v4 T4 h4 lo4 W4 K4 q4
  obtain rfl := q4.2.2
  show Gl _ _ _ _ _ _ _ _ [(.int ((own_cn x2) + (own_cn x3))), iZ]
  refine o_icmpN W4 20 (hb hy d7_17) (XT.ii_ge_f (show (0 : Int32) < ((own_cn x2) + (own_cn x3)) by obtain ⟨g0, e0, k0⟩ : ∃ g, own_cn x2 = g ∧ (g = 1 ∨ g = 2) := ⟨_, rfl, own_cn12 _⟩; obtain ⟨g1, e1, k1⟩ : ∃ g, own_cn x3 = g ∧ (g = 1 ∨ g = 2) := ⟨_, rfl, own_cn12 _⟩; rw [e0, e1]; rcases k0 with rfl | rfl <;> rcases k1 with rfl | rfl <;> decide)) rfl <| o_aloadN W4 21 (hb hy d7_20) rfl rfl rfl <| o_iloadN W4 22 (hb hy d7_21) rfl rfl ?_
  have c5 := ((z1.keep K1).keep K4)
  have c6 := ((z0.keep K1).keep K4)
  refine o_virtualC W4 (w68 hw) (w69 hw) (o_nf W4 rfl (w71 hw)) (w71 hw) (w70 hw) (by decide) c6 (w72 hw) (w12 hw) (al_h (c5 _ W4.old (Keep.refl _ _)).2) 0 0 0 (by decide) (by rw [hml]; rfl) (lenOf pd8 rfl) [] rfl rfl 25 (hb hy d7_22) rfl rfl rfl all0 tri ?_
  intro v7 T7 h7 lo7 W7 K7 q7
  obtain rfl := q7.2.2
  show Gl _ _ _ _ _ _ _ _ [(.int x1)]
  refine o_istore W7 (L' := #[vr a1, vr a2, vi 0, vi 0, vi x1, un]) 27 (hb hy d7_25) rfl rfl <| o_aloadN W7 28 (hb hy d7_27) rfl rfl rfl <| o_iloadN W7 29 (hb hy d7_28) rfl rfl ?_
  have c8 := ((c3.keep K4).keep K7)
  have c9 := ((c2.keep K4).keep K7)
  refine o_virtualC W7 (w68 hw) (w69 hw) (o_nf W7 rfl (w71 hw)) (w71 hw) (w70 hw) (by decide) c9 (w72 hw) (w12 hw) (al_h (c8 _ W7.old (Keep.refl _ _)).2) 0 0 0 (by decide) (by rw [hml]; rfl) (lenOf pd8 rfl) [] rfl rfl 32 (hb hy d7_29) rfl rfl rfl all0 tri ?_
  intro v10 T10 h10 lo10 W10 K10 q10
  obtain rfl := q10.2.2
  show Gl _ _ _ _ _ _ _ _ [(.int x2)]
  refine o_istore W10 (L' := #[vr a1, vr a2, vi 0, vi 0, vi x1, vi x2]) 34 (hb hy d7_32) rfl rfl <| o_iload W10 36 (hb hy d7_34) rfl rfl <| o_iload W10 38 (hb hy d7_36) rfl rfl <| o_icmpY W10 49 (hb hy d7_38) (XT.ii_eq_t hc11) (by decide) rfl <| o_iloadN W10 50 (hb hy d7_49) rfl rfl <| o_iload W10 52 (hb hy d7_50) rfl rfl ?_
  refine o_staticC W10 (w113 hw) (w114 hw) (w115 hw) (w116 hw) (by decide) (rm3 l hw x1 h10 W10.old ) 1 0 0 (by decide) (by rw [hml]; rfl) (lenOf pd8 rfl) [iZ] rfl rfl 55 (hb hy d7_52) rfl rfl rfl all0 tri ?_
  intro v12 T12 h12 lo12 W12 K12 q12
  obtain rfl := q12.2.2
  show Gl _ _ _ _ _ _ _ _ [(.int (own_cn x1)), iZ]
  refine o_iadd W12 (v := (own_cn x1)) 56 (hb hy d7_55) (own_z0 _) rfl <| o_istoreN W12 (L' := #[vr a1, vr a2, vi (own_cn x1), vi 0, vi x1, vi x2]) 57 (hb hy d7_56) rfl rfl <| o_iloadN W12 58 (hb hy d7_57) rfl rfl <| o_iload W12 60 (hb hy d7_58) rfl rfl ?_
  refine o_staticC W12 (w113 hw) (w114 hw) (w115 hw) (w116 hw) (by decide) (rm3 l hw x2 h12 W12.old ) 1 0 0 (by decide) (by rw [hml]; rfl) (lenOf pd8 rfl) [iZ] rfl rfl 63 (hb hy d7_60) rfl rfl rfl all0 tri ?_
  intro v13 T13 h13 lo13 W13 K13 q13
  obtain rfl := q13.2.2
  show Gl _ _ _ _ _ _ _ _ [(.int (own_cn x2)), iZ]
  refine o_iadd W13 (v := (own_cn x2)) 64 (hb hy d7_63) (own_z0 _) rfl <| o_istoreN W13 (L' := #[vr a1, vr a2, vi (own_cn x1), vi (own_cn x2), vi x1, vi x2]) 65 (hb hy d7_64) rfl rfl <| o_goto W13 4 (hb hy d7_65) (by decide) rfl <| o_iloadN W13 5 (hb hy d7_4) rfl rfl <| o_aloadN W13 6 (hb hy d7_5) rfl rfl rfl ?_
  have c14 := ((((c5.keep K7).keep K10).keep K12).keep K13)
  have c15 := ((((c6.keep K7).keep K10).keep K12).keep K13)
  refine o_virtualC W13 (w39 hw) (w40 hw) (o_nf W13 rfl (w42 hw)) (w42 hw) (w41 hw) (by decide) c15 (w43 hw) (w12 hw) (c14 _ W13.old (Keep.refl _ _)).1 1 0 0 (by decide) (by rw [hml]; rfl) (lenOf pd6 rfl) [(.int (own_cn x1))] rfl rfl 9 (hb hy d7_6) rfl rfl rfl all0 tri ?_
  intro v16 T16 h16 lo16 W16 K16 q16
  obtain rfl := q16.2.2
  show Gl _ _ _ _ _ _ _ _ [(.int (own_cn x1)), (.int (own_cn x1))]
  refine o_icmpY W16 68 (hb hy d7_9) (XT.ii_ge_t (own_irr _)) (by decide) rfl <| o_aloadN W16 69 (hb hy d7_68) rfl rfl rfl ?_
  have c17 := (c14.keep K16)
  have c18 := (c15.keep K16)
  refine o_virtualC W16 (w39 hw) (w40 hw) (o_nf W16 rfl (w42 hw)) (w42 hw) (w41 hw) (by decide) c18 (w43 hw) (w12 hw) (c17 _ W16.old (Keep.refl _ _)).1 0 0 0 (by decide) (by rw [hml]; rfl) (lenOf pd6 rfl) [] rfl rfl 72 (hb hy d7_69) rfl rfl rfl all0 tri ?_
  intro v19 T19 h19 lo19 W19 K19 q19
  obtain rfl := q19.2.2
  show Gl _ _ _ _ _ _ _ _ [(.int (own_cn x1))]
  refine o_iloadN W19 73 (hb hy d7_72) rfl rfl <| o_isub W19 (v := ((own_cn x1) - (own_cn x1))) 74 (hb hy d7_73) rfl rfl <| o_aloadN W19 75 (hb hy d7_74) rfl rfl rfl ?_
  have c20 := (((((c8.keep K10).keep K12).keep K13).keep K16).keep K19)
  have c21 := (((((c9.keep K10).keep K12).keep K13).keep K16).keep K19)
  refine o_virtualC W19 (w39 hw) (w40 hw) (o_nf W19 rfl (w42 hw)) (w42 hw) (w41 hw) (by decide) c21 (w43 hw) (w12 hw) (c20 _ W19.old (Keep.refl _ _)).1 1 0 0 (by decide) (by rw [hml]; rfl) (lenOf pd6 rfl) [(.int ((own_cn x1) - (own_cn x1)))] rfl rfl 78 (hb hy d7_75) rfl rfl rfl all0 tri ?_
  intro v22 T22 h22 lo22 W22 K22 q22
  obtain rfl := q22.2.2
  show Gl _ _ _ _ _ _ _ _ [(.int ((own_cn x2) + (own_cn x3))), (.int ((own_cn x1) - (own_cn x1)))]
  refine o_iloadN W22 79 (hb hy d7_78) rfl rfl <| o_isub W22 (v := (((own_cn x2) + (own_cn x3)) - (own_cn x2))) 80 (hb hy d7_79) rfl rfl ?_
  refine o_staticC W22 (w50 hw) (w51 hw) (w52 hw) (w53 hw) (by decide) (rm202 l hw ((own_cn x1) - (own_cn x1)) (((own_cn x2) + (own_cn x3)) - (own_cn x2)) h22 W22.old (show ((own_cn x1) - (own_cn x1)) < (((own_cn x2) + (own_cn x3)) - (own_cn x2)) by obtain ⟨g0, e0, k0⟩ : ∃ g, own_cn x1 = g ∧ (g = 1 ∨ g = 2) := ⟨_, rfl, own_cn12 _⟩; obtain ⟨g1, e1, k1⟩ : ∃ g, own_cn x2 = g ∧ (g = 1 ∨ g = 2) := ⟨_, rfl, own_cn12 _⟩; obtain ⟨g2, e2, k2⟩ : ∃ g, own_cn x3 = g ∧ (g = 1 ∨ g = 2) := ⟨_, rfl, own_cn12 _⟩; rw [e0, e1, e2]; rcases k0 with rfl | rfl <;> rcases k1 with rfl | rfl <;> rcases k2 with rfl | rfl <;> decide)) 0 0 0 (by decide) (by rw [hml]; rfl) (lenOf pd5 rfl) [] rfl rfl 83 (hb hy d7_80) rfl rfl rfl all0 tri ?_
  intro v23 T23 h23 lo23 W23 K23 q23
  obtain rfl := q23.2.2
  show Gl _ _ _ _ _ _ _ _ [(.int (-1 : Int32))]
  exact o_retI W23 hlk hret (hb hy d7_83) (by decide) (by decide) rfl
theorem rm206 (l : Launch) {Z a0} (hw : HW Z a0) (a1 a2 : Addr) (x1 x2 x3 : Int32) (h0 : Heap) (O0 : Old Z Z.heap.size h0) (z0 : Exa Z h0 a1 s1) (z1 : Sv l Z h0 a1 (own_cn x1) [((0 : Int32), x1)]) (z2 : Exa Z h0 a2 s1) (z3 : Sv l Z h0 a2 ((own_cn x2) + (own_cn x3)) [((0 : Int32), x2), ((own_cn x2), x3)]) (hc11 : ¬ (x1 = x2)) (hc12 : ¬ (x1 < x2)) :
    CtrN l Z mn14 prog_10_method_4_code 6 (some .int) [] (⟨7, 0, 0, 104⟩ : Room) #[(.ref a1), (.ref a2)] h0 [] (fun v h => v = some (.int 1)) := by
  refine CtrN.intro (L0 := #[vr a1, vr a2, un, un, un, un]) (plainFor_of_name pn4) O0 (own_entry rfl) ?_
  intro p e s m below meth c T0 hy hml hret hlk hnm W0
  refine o_iconst W0 (v := 0) 1 (hb hy d7_0) rfl rfl <| o_istoreN W0 (L' := #[vr a1, vr a2, vi 0, un, un, un]) 2 (hb hy d7_1) rfl rfl <| o_iconst W0 (v := 0) 3 (hb hy d7_2) rfl rfl <| o_istoreN W0 (L' := #[vr a1, vr a2, vi 0, vi 0, un, un]) 4 (hb hy d7_3) rfl rfl <| o_iloadN W0 5 (hb hy d7_4) rfl rfl <| o_aloadN W0 6 (hb hy d7_5) rfl rfl rfl ?_
  refine o_virtualC W0 (w39 hw) (w40 hw) (o_nf W0 rfl (w42 hw)) (w42 hw) (w41 hw) (by decide) z0 (w43 hw) (w12 hw) (z1 _ W0.old (Keep.refl _ _)).1 1 0 0 (by decide) (by rw [hml]; rfl) (lenOf pd6 rfl) [iZ] rfl rfl 9 (hb hy d7_6) rfl rfl rfl all0 tri ?_
  intro v1 T1 h1 lo1 W1 K1 q1
  obtain rfl := q1.2.2
  show Gl _ _ _ _ _ _ _ _ [(.int (own_cn x1)), iZ]
  refine o_icmpN W1 12 (hb hy d7_9) (XT.ii_ge_f (show (0 : Int32) < (own_cn x1) by obtain ⟨g0, e0, k0⟩ : ∃ g, own_cn x1 = g ∧ (g = 1 ∨ g = 2) := ⟨_, rfl, own_cn12 _⟩; rw [e0]; rcases k0 with rfl | rfl <;> decide)) rfl <| o_iloadN W1 13 (hb hy d7_12) rfl rfl <| o_aloadN W1 14 (hb hy d7_13) rfl rfl rfl ?_
  have c2 := (z2.keep K1)
  have c3 := (z3.keep K1)
  refine o_virtualC W1 (w39 hw) (w40 hw) (o_nf W1 rfl (w42 hw)) (w42 hw) (w41 hw) (by decide) c2 (w43 hw) (w12 hw) (c3 _ W1.old (Keep.refl _ _)).1 1 0 0 (by decide) (by rw [hml]; rfl) (lenOf pd6 rfl) [iZ] rfl rfl 17 (hb hy d7_14) rfl rfl rfl all0 tri ?_
  intro v4 T4 h4 lo4 W4 K4 q4
  obtain rfl := q4.2.2
  show Gl _ _ _ _ _ _ _ _ [(.int ((own_cn x2) + (own_cn x3))), iZ]
  refine o_icmpN W4 20 (hb hy d7_17) (XT.ii_ge_f (show (0 : Int32) < ((own_cn x2) + (own_cn x3)) by obtain ⟨g0, e0, k0⟩ : ∃ g, own_cn x2 = g ∧ (g = 1 ∨ g = 2) := ⟨_, rfl, own_cn12 _⟩; obtain ⟨g1, e1, k1⟩ : ∃ g, own_cn x3 = g ∧ (g = 1 ∨ g = 2) := ⟨_, rfl, own_cn12 _⟩; rw [e0, e1]; rcases k0 with rfl | rfl <;> rcases k1 with rfl | rfl <;> decide)) rfl <| o_aloadN W4 21 (hb hy d7_20) rfl rfl rfl <| o_iloadN W4 22 (hb hy d7_21) rfl rfl ?_
  have c5 := ((z1.keep K1).keep K4)
  have c6 := ((z0.keep K1).keep K4)
  refine o_virtualC W4 (w68 hw) (w69 hw) (o_nf W4 rfl (w71 hw)) (w71 hw) (w70 hw) (by decide) c6 (w72 hw) (w12 hw) (al_h (c5 _ W4.old (Keep.refl _ _)).2) 0 0 0 (by decide) (by rw [hml]; rfl) (lenOf pd8 rfl) [] rfl rfl 25 (hb hy d7_22) rfl rfl rfl all0 tri ?_
  intro v7 T7 h7 lo7 W7 K7 q7
  obtain rfl := q7.2.2
  show Gl _ _ _ _ _ _ _ _ [(.int x1)]
  refine o_istore W7 (L' := #[vr a1, vr a2, vi 0, vi 0, vi x1, un]) 27 (hb hy d7_25) rfl rfl <| o_aloadN W7 28 (hb hy d7_27) rfl rfl rfl <| o_iloadN W7 29 (hb hy d7_28) rfl rfl ?_
  have c8 := ((c3.keep K4).keep K7)
  have c9 := ((c2.keep K4).keep K7)
  refine o_virtualC W7 (w68 hw) (w69 hw) (o_nf W7 rfl (w71 hw)) (w71 hw) (w70 hw) (by decide) c9 (w72 hw) (w12 hw) (al_h (c8 _ W7.old (Keep.refl _ _)).2) 0 0 0 (by decide) (by rw [hml]; rfl) (lenOf pd8 rfl) [] rfl rfl 32 (hb hy d7_29) rfl rfl rfl all0 tri ?_
  intro v10 T10 h10 lo10 W10 K10 q10
  obtain rfl := q10.2.2
  show Gl _ _ _ _ _ _ _ _ [(.int x2)]
  refine o_istore W10 (L' := #[vr a1, vr a2, vi 0, vi 0, vi x1, vi x2]) 34 (hb hy d7_32) rfl rfl <| o_iload W10 36 (hb hy d7_34) rfl rfl <| o_iload W10 38 (hb hy d7_36) rfl rfl <| o_icmpN W10 41 (hb hy d7_38) (XT.ii_eq_f hc11) rfl <| o_iload W10 43 (hb hy d7_41) rfl rfl <| o_iload W10 45 (hb hy d7_43) rfl rfl ?_
  refine o_staticC W10 (w50 hw) (w51 hw) (w52 hw) (w53 hw) (by decide) (rm199 l hw x1 x2 h10 W10.old hc12 hc11) 0 0 0 (by decide) (by rw [hml]; rfl) (lenOf pd5 rfl) [] rfl rfl 48 (hb hy d7_45) rfl rfl rfl all0 tri ?_
  intro v13 T13 h13 lo13 W13 K13 q13
  obtain rfl := q13.2.2
  show Gl _ _ _ _ _ _ _ _ [(.int 1)]
  exact o_retI W13 hlk hret (hb hy d7_48) (by decide) (by decide) rfl
theorem rm207 (l : Launch) {Z a0} (hw : HW Z a0) (a1 a2 : Addr) (x1 x2 x3 : Int32) (h0 : Heap) (O0 : Old Z Z.heap.size h0) (z0 : Exa Z h0 a1 s1) (z1 : Sv l Z h0 a1 (own_cn x1) [((0 : Int32), x1)]) (z2 : Exa Z h0 a2 s1) (z3 : Sv l Z h0 a2 ((own_cn x2) + (own_cn x3)) [((0 : Int32), x2), ((own_cn x2), x3)]) (hc11 : ¬ (x1 = x2)) (hc12 : x1 < x2) :
    CtrN l Z mn14 prog_10_method_4_code 6 (some .int) [] (⟨7, 0, 0, 104⟩ : Room) #[(.ref a1), (.ref a2)] h0 [] (fun v h => v = some (.int (-1 : Int32))) := by
  refine CtrN.intro (L0 := #[vr a1, vr a2, un, un, un, un]) (plainFor_of_name pn4) O0 (own_entry rfl) ?_
  intro p e s m below meth c T0 hy hml hret hlk hnm W0
  refine o_iconst W0 (v := 0) 1 (hb hy d7_0) rfl rfl <| o_istoreN W0 (L' := #[vr a1, vr a2, vi 0, un, un, un]) 2 (hb hy d7_1) rfl rfl <| o_iconst W0 (v := 0) 3 (hb hy d7_2) rfl rfl <| o_istoreN W0 (L' := #[vr a1, vr a2, vi 0, vi 0, un, un]) 4 (hb hy d7_3) rfl rfl <| o_iloadN W0 5 (hb hy d7_4) rfl rfl <| o_aloadN W0 6 (hb hy d7_5) rfl rfl rfl ?_
  refine o_virtualC W0 (w39 hw) (w40 hw) (o_nf W0 rfl (w42 hw)) (w42 hw) (w41 hw) (by decide) z0 (w43 hw) (w12 hw) (z1 _ W0.old (Keep.refl _ _)).1 1 0 0 (by decide) (by rw [hml]; rfl) (lenOf pd6 rfl) [iZ] rfl rfl 9 (hb hy d7_6) rfl rfl rfl all0 tri ?_
  intro v1 T1 h1 lo1 W1 K1 q1
  obtain rfl := q1.2.2
  show Gl _ _ _ _ _ _ _ _ [(.int (own_cn x1)), iZ]
  refine o_icmpN W1 12 (hb hy d7_9) (XT.ii_ge_f (show (0 : Int32) < (own_cn x1) by obtain ⟨g0, e0, k0⟩ : ∃ g, own_cn x1 = g ∧ (g = 1 ∨ g = 2) := ⟨_, rfl, own_cn12 _⟩; rw [e0]; rcases k0 with rfl | rfl <;> decide)) rfl <| o_iloadN W1 13 (hb hy d7_12) rfl rfl <| o_aloadN W1 14 (hb hy d7_13) rfl rfl rfl ?_
  have c2 := (z2.keep K1)
  have c3 := (z3.keep K1)
  refine o_virtualC W1 (w39 hw) (w40 hw) (o_nf W1 rfl (w42 hw)) (w42 hw) (w41 hw) (by decide) c2 (w43 hw) (w12 hw) (c3 _ W1.old (Keep.refl _ _)).1 1 0 0 (by decide) (by rw [hml]; rfl) (lenOf pd6 rfl) [iZ] rfl rfl 17 (hb hy d7_14) rfl rfl rfl all0 tri ?_
  intro v4 T4 h4 lo4 W4 K4 q4
  obtain rfl := q4.2.2
  show Gl _ _ _ _ _ _ _ _ [(.int ((own_cn x2) + (own_cn x3))), iZ]
  refine o_icmpN W4 20 (hb hy d7_17) (XT.ii_ge_f (show (0 : Int32) < ((own_cn x2) + (own_cn x3)) by obtain ⟨g0, e0, k0⟩ : ∃ g, own_cn x2 = g ∧ (g = 1 ∨ g = 2) := ⟨_, rfl, own_cn12 _⟩; obtain ⟨g1, e1, k1⟩ : ∃ g, own_cn x3 = g ∧ (g = 1 ∨ g = 2) := ⟨_, rfl, own_cn12 _⟩; rw [e0, e1]; rcases k0 with rfl | rfl <;> rcases k1 with rfl | rfl <;> decide)) rfl <| o_aloadN W4 21 (hb hy d7_20) rfl rfl rfl <| o_iloadN W4 22 (hb hy d7_21) rfl rfl ?_
  have c5 := ((z1.keep K1).keep K4)
  have c6 := ((z0.keep K1).keep K4)
  refine o_virtualC W4 (w68 hw) (w69 hw) (o_nf W4 rfl (w71 hw)) (w71 hw) (w70 hw) (by decide) c6 (w72 hw) (w12 hw) (al_h (c5 _ W4.old (Keep.refl _ _)).2) 0 0 0 (by decide) (by rw [hml]; rfl) (lenOf pd8 rfl) [] rfl rfl 25 (hb hy d7_22) rfl rfl rfl all0 tri ?_
  intro v7 T7 h7 lo7 W7 K7 q7
  obtain rfl := q7.2.2
  show Gl _ _ _ _ _ _ _ _ [(.int x1)]
  refine o_istore W7 (L' := #[vr a1, vr a2, vi 0, vi 0, vi x1, un]) 27 (hb hy d7_25) rfl rfl <| o_aloadN W7 28 (hb hy d7_27) rfl rfl rfl <| o_iloadN W7 29 (hb hy d7_28) rfl rfl ?_
  have c8 := ((c3.keep K4).keep K7)
  have c9 := ((c2.keep K4).keep K7)
  refine o_virtualC W7 (w68 hw) (w69 hw) (o_nf W7 rfl (w71 hw)) (w71 hw) (w70 hw) (by decide) c9 (w72 hw) (w12 hw) (al_h (c8 _ W7.old (Keep.refl _ _)).2) 0 0 0 (by decide) (by rw [hml]; rfl) (lenOf pd8 rfl) [] rfl rfl 32 (hb hy d7_29) rfl rfl rfl all0 tri ?_
  intro v10 T10 h10 lo10 W10 K10 q10
  obtain rfl := q10.2.2
  show Gl _ _ _ _ _ _ _ _ [(.int x2)]
  refine o_istore W10 (L' := #[vr a1, vr a2, vi 0, vi 0, vi x1, vi x2]) 34 (hb hy d7_32) rfl rfl <| o_iload W10 36 (hb hy d7_34) rfl rfl <| o_iload W10 38 (hb hy d7_36) rfl rfl <| o_icmpN W10 41 (hb hy d7_38) (XT.ii_eq_f hc11) rfl <| o_iload W10 43 (hb hy d7_41) rfl rfl <| o_iload W10 45 (hb hy d7_43) rfl rfl ?_
  refine o_staticC W10 (w50 hw) (w51 hw) (w52 hw) (w53 hw) (by decide) (rm202 l hw x1 x2 h10 W10.old hc12) 0 0 0 (by decide) (by rw [hml]; rfl) (lenOf pd5 rfl) [] rfl rfl 48 (hb hy d7_45) rfl rfl rfl all0 tri ?_
  intro v13 T13 h13 lo13 W13 K13 q13
  obtain rfl := q13.2.2
  show Gl _ _ _ _ _ _ _ _ [(.int (-1 : Int32))]
  exact o_retI W13 hlk hret (hb hy d7_48) (by decide) (by decide) rfl
theorem rm208 (l : Launch) {Z a0} (hw : HW Z a0)  (h0 : Heap) (O0 : Old Z Z.heap.size h0) :
    CtrN l Z mn12 method_3_code 2 (some .int) [] (⟨0, 0, 0, 0⟩ : Room) #[(.int 2), iZ] h0 [] (fun v h => v = some (.int 1)) := by
  refine CtrN.intro (L0 := #[vi 2, vi 0]) (plainFor_of_name pn0) O0 (own_entry rfl) ?_
  intro p e s m below meth c T0 hy hml hret hlk hnm W0
  refine o_iloadN W0 1 (hb hy d6_0) rfl rfl <| o_iloadN W0 2 (hb hy d6_1) rfl rfl <| o_icmpY W0 9 (hb hy d6_2) (XT.ii_ge_t (by decide)) (by decide) rfl <| o_iloadN W0 10 (hb hy d6_9) rfl rfl <| o_iloadN W0 11 (hb hy d6_10) rfl rfl <| o_icmpN W0 14 (hb hy d6_11) (XT.ii_le_f (by decide)) rfl ?_
  refine o_iconst W0 (v := 1) 15 (hb hy d6_14) rfl rfl <| o_goto W0 19 (hb hy d6_15) (by decide) rfl ?_
  exact o_retI W0 hlk hret (hb hy d6_19) (by decide) (by decide) rfl
theorem rm209 (l : Launch) {Z a0} (hw : HW Z a0) (a1 a2 : Addr) (x1 x2 : Int32) (h0 : Heap) (O0 : Old Z Z.heap.size h0) (z0 : Exa Z h0 a1 s1) (z1 : Sv l Z h0 a1 ((own_cn x1) + (own_cn x2)) [((0 : Int32), x1), ((own_cn x1), x2)]) (z2 : Exa Z h0 a2 s1) (z3 : Sv l Z h0 a2 (0 : Int32) []) :
    CtrN l Z mn14 prog_10_method_4_code 6 (some .int) [] (⟨2, 0, 0, 27⟩ : Room) #[(.ref a1), (.ref a2)] h0 [] (fun v h => v = some (.int 1)) := by
  refine CtrN.intro (L0 := #[vr a1, vr a2, un, un, un, un]) (plainFor_of_name pn4) O0 (own_entry rfl) ?_
  intro p e s m below meth c T0 hy hml hret hlk hnm W0
  refine o_iconst W0 (v := 0) 1 (hb hy d7_0) rfl rfl <| o_istoreN W0 (L' := #[vr a1, vr a2, vi 0, un, un, un]) 2 (hb hy d7_1) rfl rfl <| o_iconst W0 (v := 0) 3 (hb hy d7_2) rfl rfl <| o_istoreN W0 (L' := #[vr a1, vr a2, vi 0, vi 0, un, un]) 4 (hb hy d7_3) rfl rfl <| o_iloadN W0 5 (hb hy d7_4) rfl rfl <| o_aloadN W0 6 (hb hy d7_5) rfl rfl rfl ?_
  refine o_virtualC W0 (w39 hw) (w40 hw) (o_nf W0 rfl (w42 hw)) (w42 hw) (w41 hw) (by decide) z0 (w43 hw) (w12 hw) (z1 _ W0.old (Keep.refl _ _)).1 1 0 0 (by decide) (by rw [hml]; rfl) (lenOf pd6 rfl) [iZ] rfl rfl 9 (hb hy d7_6) rfl rfl rfl all0 tri ?_
  intro v1 T1 h1 lo1 W1 K1 q1
  obtain rfl := q1.2.2
  show Gl _ _ _ _ _ _ _ _ [(.int ((own_cn x1) + (own_cn x2))), iZ]
  refine o_icmpN W1 12 (hb hy d7_9) (XT.ii_ge_f (show (0 : Int32) < ((own_cn x1) + (own_cn x2)) by obtain ⟨g0, e0, k0⟩ : ∃ g, own_cn x1 = g ∧ (g = 1 ∨ g = 2) := ⟨_, rfl, own_cn12 _⟩; obtain ⟨g1, e1, k1⟩ : ∃ g, own_cn x2 = g ∧ (g = 1 ∨ g = 2) := ⟨_, rfl, own_cn12 _⟩; rw [e0, e1]; rcases k0 with rfl | rfl <;> rcases k1 with rfl | rfl <;> decide)) rfl <| o_iloadN W1 13 (hb hy d7_12) rfl rfl <| o_aloadN W1 14 (hb hy d7_13) rfl rfl rfl ?_
  have c2 := (z2.keep K1)
  have c3 := (z3.keep K1)
  refine o_virtualC W1 (w39 hw) (w40 hw) (o_nf W1 rfl (w42 hw)) (w42 hw) (w41 hw) (by decide) c2 (w43 hw) (w12 hw) (c3 _ W1.old (Keep.refl _ _)).1 1 0 0 (by decide) (by rw [hml]; rfl) (lenOf pd6 rfl) [iZ] rfl rfl 17 (hb hy d7_14) rfl rfl rfl all0 tri ?_
  intro v4 T4 h4 lo4 W4 K4 q4
  obtain rfl := q4.2.2
  show Gl _ _ _ _ _ _ _ _ [iZ, iZ]
  refine o_icmpY W4 68 (hb hy d7_17) (XT.ii_ge_t (by decide)) (by decide) rfl <| o_aloadN W4 69 (hb hy d7_68) rfl rfl rfl ?_
  have c5 := ((z1.keep K1).keep K4)
  have c6 := ((z0.keep K1).keep K4)
  refine o_virtualC W4 (w39 hw) (w40 hw) (o_nf W4 rfl (w42 hw)) (w42 hw) (w41 hw) (by decide) c6 (w43 hw) (w12 hw) (c5 _ W4.old (Keep.refl _ _)).1 0 0 0 (by decide) (by rw [hml]; rfl) (lenOf pd6 rfl) [] rfl rfl 72 (hb hy d7_69) rfl rfl rfl all0 tri ?_
  intro v7 T7 h7 lo7 W7 K7 q7
  obtain rfl := q7.2.2
  show Gl _ _ _ _ _ _ _ _ [(.int ((own_cn x1) + (own_cn x2)))]
  refine o_iloadN W7 73 (hb hy d7_72) rfl rfl <| o_isub W7 (v := (((own_cn x1) + (own_cn x2)) - 0)) 74 (hb hy d7_73) rfl rfl <| o_aloadN W7 75 (hb hy d7_74) rfl rfl rfl ?_
  have c8 := ((c3.keep K4).keep K7)
  have c9 := ((c2.keep K4).keep K7)
  refine o_virtualC W7 (w39 hw) (w40 hw) (o_nf W7 rfl (w42 hw)) (w42 hw) (w41 hw) (by decide) c9 (w43 hw) (w12 hw) (c8 _ W7.old (Keep.refl _ _)).1 1 0 0 (by decide) (by rw [hml]; rfl) (lenOf pd6 rfl) [(.int (((own_cn x1) + (own_cn x2)) - 0))] rfl rfl 78 (hb hy d7_75) rfl rfl rfl all0 tri ?_
  intro v10 T10 h10 lo10 W10 K10 q10
  obtain rfl := q10.2.2
  show Gl _ _ _ _ _ _ _ _ [iZ, (.int (((own_cn x1) + (own_cn x2)) - 0))]
  refine o_iloadN W10 79 (hb hy d7_78) rfl rfl <| o_isub W10 (v := 0) 80 (hb hy d7_79) (by decide) rfl ?_
  refine o_staticC W10 (w50 hw) (w51 hw) (w52 hw) (w53 hw) (by decide) (rm192 l hw (((own_cn x1) + (own_cn x2)) - 0) h10 W10.old (show ¬ ((((own_cn x1) + (own_cn x2)) - 0) < (0 : Int32)) by obtain ⟨g0, e0, k0⟩ : ∃ g, own_cn x1 = g ∧ (g = 1 ∨ g = 2) := ⟨_, rfl, own_cn12 _⟩; obtain ⟨g1, e1, k1⟩ : ∃ g, own_cn x2 = g ∧ (g = 1 ∨ g = 2) := ⟨_, rfl, own_cn12 _⟩; rw [e0, e1]; rcases k0 with rfl | rfl <;> rcases k1 with rfl | rfl <;> decide) (show ¬ ((((own_cn x1) + (own_cn x2)) - 0) = (0 : Int32)) by obtain ⟨g0, e0, k0⟩ : ∃ g, own_cn x1 = g ∧ (g = 1 ∨ g = 2) := ⟨_, rfl, own_cn12 _⟩; obtain ⟨g1, e1, k1⟩ : ∃ g, own_cn x2 = g ∧ (g = 1 ∨ g = 2) := ⟨_, rfl, own_cn12 _⟩; rw [e0, e1]; rcases k0 with rfl | rfl <;> rcases k1 with rfl | rfl <;> decide)) 0 0 0 (by decide) (by rw [hml]; rfl) (lenOf pd5 rfl) [] rfl rfl 83 (hb hy d7_80) rfl rfl rfl all0 tri ?_
  intro v11 T11 h11 lo11 W11 K11 q11
  obtain rfl := q11.2.2
  show Gl _ _ _ _ _ _ _ _ [(.int 1)]
  exact o_retI W11 hlk hret (hb hy d7_83) (by decide) (by decide) rfl
theorem rm210 (l : Launch) {Z a0} (hw : HW Z a0)  (h0 : Heap) (O0 : Old Z Z.heap.size h0) :
    CtrN l Z mn12 method_3_code 2 (some .int) [] (⟨0, 0, 0, 0⟩ : Room) #[(.int 2), (.int 1)] h0 [] (fun v h => v = some (.int 1)) := by
  refine CtrN.intro (L0 := #[vi 2, vi 1]) (plainFor_of_name pn0) O0 (own_entry rfl) ?_
  intro p e s m below meth c T0 hy hml hret hlk hnm W0
  refine o_iloadN W0 1 (hb hy d6_0) rfl rfl <| o_iloadN W0 2 (hb hy d6_1) rfl rfl <| o_icmpY W0 9 (hb hy d6_2) (XT.ii_ge_t (by decide)) (by decide) rfl <| o_iloadN W0 10 (hb hy d6_9) rfl rfl <| o_iloadN W0 11 (hb hy d6_10) rfl rfl <| o_icmpN W0 14 (hb hy d6_11) (XT.ii_le_f (by decide)) rfl ?_
  refine o_iconst W0 (v := 1) 15 (hb hy d6_14) rfl rfl <| o_goto W0 19 (hb hy d6_15) (by decide) rfl ?_
  exact o_retI W0 hlk hret (hb hy d6_19) (by decide) (by decide) rfl
theorem rm211 (l : Launch) {Z a0} (hw : HW Z a0) (a1 a2 : Addr) (x1 x2 x3 : Int32) (h0 : Heap) (O0 : Old Z Z.heap.size h0) (z0 : Exa Z h0 a1 s1) (z1 : Sv l Z h0 a1 ((own_cn x1) + (own_cn x2)) [((0 : Int32), x1), ((own_cn x1), x2)]) (z2 : Exa Z h0 a2 s1) (z3 : Sv l Z h0 a2 (own_cn x3) [((0 : Int32), x3)]) (hc11 : x1 = x3) :
    CtrN l Z mn14 prog_10_method_4_code 6 (some .int) [] (⟨7, 0, 0, 104⟩ : Room) #[(.ref a1), (.ref a2)] h0 [] (fun v h => v = some (.int 1)) := by
  refine CtrN.intro (L0 := #[vr a1, vr a2, un, un, un, un]) (plainFor_of_name pn4) O0 (own_entry rfl) ?_
  intro p e s m below meth c T0 hy hml hret hlk hnm W0
  refine o_iconst W0 (v := 0) 1 (hb hy d7_0) rfl rfl <| o_istoreN W0 (L' := #[vr a1, vr a2, vi 0, un, un, un]) 2 (hb hy d7_1) rfl rfl <| o_iconst W0 (v := 0) 3 (hb hy d7_2) rfl rfl <| o_istoreN W0 (L' := #[vr a1, vr a2, vi 0, vi 0, un, un]) 4 (hb hy d7_3) rfl rfl <| o_iloadN W0 5 (hb hy d7_4) rfl rfl <| o_aloadN W0 6 (hb hy d7_5) rfl rfl rfl ?_
  refine o_virtualC W0 (w39 hw) (w40 hw) (o_nf W0 rfl (w42 hw)) (w42 hw) (w41 hw) (by decide) z0 (w43 hw) (w12 hw) (z1 _ W0.old (Keep.refl _ _)).1 1 0 0 (by decide) (by rw [hml]; rfl) (lenOf pd6 rfl) [iZ] rfl rfl 9 (hb hy d7_6) rfl rfl rfl all0 tri ?_
  intro v1 T1 h1 lo1 W1 K1 q1
  obtain rfl := q1.2.2
  show Gl _ _ _ _ _ _ _ _ [(.int ((own_cn x1) + (own_cn x2))), iZ]
  refine o_icmpN W1 12 (hb hy d7_9) (XT.ii_ge_f (show (0 : Int32) < ((own_cn x1) + (own_cn x2)) by obtain ⟨g0, e0, k0⟩ : ∃ g, own_cn x1 = g ∧ (g = 1 ∨ g = 2) := ⟨_, rfl, own_cn12 _⟩; obtain ⟨g1, e1, k1⟩ : ∃ g, own_cn x2 = g ∧ (g = 1 ∨ g = 2) := ⟨_, rfl, own_cn12 _⟩; rw [e0, e1]; rcases k0 with rfl | rfl <;> rcases k1 with rfl | rfl <;> decide)) rfl <| o_iloadN W1 13 (hb hy d7_12) rfl rfl <| o_aloadN W1 14 (hb hy d7_13) rfl rfl rfl ?_
  have c2 := (z2.keep K1)
  have c3 := (z3.keep K1)
  refine o_virtualC W1 (w39 hw) (w40 hw) (o_nf W1 rfl (w42 hw)) (w42 hw) (w41 hw) (by decide) c2 (w43 hw) (w12 hw) (c3 _ W1.old (Keep.refl _ _)).1 1 0 0 (by decide) (by rw [hml]; rfl) (lenOf pd6 rfl) [iZ] rfl rfl 17 (hb hy d7_14) rfl rfl rfl all0 tri ?_
  intro v4 T4 h4 lo4 W4 K4 q4
  obtain rfl := q4.2.2
  show Gl _ _ _ _ _ _ _ _ [(.int (own_cn x3)), iZ]
  refine o_icmpN W4 20 (hb hy d7_17) (XT.ii_ge_f (show (0 : Int32) < (own_cn x3) by obtain ⟨g0, e0, k0⟩ : ∃ g, own_cn x3 = g ∧ (g = 1 ∨ g = 2) := ⟨_, rfl, own_cn12 _⟩; rw [e0]; rcases k0 with rfl | rfl <;> decide)) rfl <| o_aloadN W4 21 (hb hy d7_20) rfl rfl rfl <| o_iloadN W4 22 (hb hy d7_21) rfl rfl ?_
  have c5 := ((z1.keep K1).keep K4)
  have c6 := ((z0.keep K1).keep K4)
  refine o_virtualC W4 (w68 hw) (w69 hw) (o_nf W4 rfl (w71 hw)) (w71 hw) (w70 hw) (by decide) c6 (w72 hw) (w12 hw) (al_h (c5 _ W4.old (Keep.refl _ _)).2) 0 0 0 (by decide) (by rw [hml]; rfl) (lenOf pd8 rfl) [] rfl rfl 25 (hb hy d7_22) rfl rfl rfl all0 tri ?_
  intro v7 T7 h7 lo7 W7 K7 q7
  obtain rfl := q7.2.2
  show Gl _ _ _ _ _ _ _ _ [(.int x1)]
  refine o_istore W7 (L' := #[vr a1, vr a2, vi 0, vi 0, vi x1, un]) 27 (hb hy d7_25) rfl rfl <| o_aloadN W7 28 (hb hy d7_27) rfl rfl rfl <| o_iloadN W7 29 (hb hy d7_28) rfl rfl ?_
  have c8 := ((c3.keep K4).keep K7)
  have c9 := ((c2.keep K4).keep K7)
  refine o_virtualC W7 (w68 hw) (w69 hw) (o_nf W7 rfl (w71 hw)) (w71 hw) (w70 hw) (by decide) c9 (w72 hw) (w12 hw) (al_h (c8 _ W7.old (Keep.refl _ _)).2) 0 0 0 (by decide) (by rw [hml]; rfl) (lenOf pd8 rfl) [] rfl rfl 32 (hb hy d7_29) rfl rfl rfl all0 tri ?_
  intro v10 T10 h10 lo10 W10 K10 q10
  obtain rfl := q10.2.2
  show Gl _ _ _ _ _ _ _ _ [(.int x3)]
  refine o_istore W10 (L' := #[vr a1, vr a2, vi 0, vi 0, vi x1, vi x3]) 34 (hb hy d7_32) rfl rfl <| o_iload W10 36 (hb hy d7_34) rfl rfl <| o_iload W10 38 (hb hy d7_36) rfl rfl <| o_icmpY W10 49 (hb hy d7_38) (XT.ii_eq_t hc11) (by decide) rfl <| o_iloadN W10 50 (hb hy d7_49) rfl rfl <| o_iload W10 52 (hb hy d7_50) rfl rfl ?_
  refine o_staticC W10 (w113 hw) (w114 hw) (w115 hw) (w116 hw) (by decide) (rm3 l hw x1 h10 W10.old ) 1 0 0 (by decide) (by rw [hml]; rfl) (lenOf pd8 rfl) [iZ] rfl rfl 55 (hb hy d7_52) rfl rfl rfl all0 tri ?_
  intro v12 T12 h12 lo12 W12 K12 q12
  obtain rfl := q12.2.2
  show Gl _ _ _ _ _ _ _ _ [(.int (own_cn x1)), iZ]
  refine o_iadd W12 (v := (own_cn x1)) 56 (hb hy d7_55) (own_z0 _) rfl <| o_istoreN W12 (L' := #[vr a1, vr a2, vi (own_cn x1), vi 0, vi x1, vi x3]) 57 (hb hy d7_56) rfl rfl <| o_iloadN W12 58 (hb hy d7_57) rfl rfl <| o_iload W12 60 (hb hy d7_58) rfl rfl ?_
  refine o_staticC W12 (w113 hw) (w114 hw) (w115 hw) (w116 hw) (by decide) (rm3 l hw x3 h12 W12.old ) 1 0 0 (by decide) (by rw [hml]; rfl) (lenOf pd8 rfl) [iZ] rfl rfl 63 (hb hy d7_60) rfl rfl rfl all0 tri ?_
  intro v13 T13 h13 lo13 W13 K13 q13
  obtain rfl := q13.2.2
  show Gl _ _ _ _ _ _ _ _ [(.int (own_cn x3)), iZ]
  refine o_iadd W13 (v := (own_cn x3)) 64 (hb hy d7_63) (own_z0 _) rfl <| o_istoreN W13 (L' := #[vr a1, vr a2, vi (own_cn x1), vi (own_cn x3), vi x1, vi x3]) 65 (hb hy d7_64) rfl rfl <| o_goto W13 4 (hb hy d7_65) (by decide) rfl <| o_iloadN W13 5 (hb hy d7_4) rfl rfl <| o_aloadN W13 6 (hb hy d7_5) rfl rfl rfl ?_
  have c14 := ((((c5.keep K7).keep K10).keep K12).keep K13)
  have c15 := ((((c6.keep K7).keep K10).keep K12).keep K13)
  refine o_virtualC W13 (w39 hw) (w40 hw) (o_nf W13 rfl (w42 hw)) (w42 hw) (w41 hw) (by decide) c15 (w43 hw) (w12 hw) (c14 _ W13.old (Keep.refl _ _)).1 1 0 0 (by decide) (by rw [hml]; rfl) (lenOf pd6 rfl) [(.int (own_cn x1))] rfl rfl 9 (hb hy d7_6) rfl rfl rfl all0 tri ?_
  intro v16 T16 h16 lo16 W16 K16 q16
  obtain rfl := q16.2.2
  show Gl _ _ _ _ _ _ _ _ [(.int ((own_cn x1) + (own_cn x2))), (.int (own_cn x1))]
  refine o_icmpN W16 12 (hb hy d7_9) (XT.ii_ge_f (show (own_cn x1) < ((own_cn x1) + (own_cn x2)) by obtain ⟨g0, e0, k0⟩ : ∃ g, own_cn x1 = g ∧ (g = 1 ∨ g = 2) := ⟨_, rfl, own_cn12 _⟩; obtain ⟨g1, e1, k1⟩ : ∃ g, own_cn x2 = g ∧ (g = 1 ∨ g = 2) := ⟨_, rfl, own_cn12 _⟩; rw [e0, e1]; rcases k0 with rfl | rfl <;> rcases k1 with rfl | rfl <;> decide)) rfl <| o_iloadN W16 13 (hb hy d7_12) rfl rfl <| o_aloadN W16 14 (hb hy d7_13) rfl rfl rfl ?_
  have c17 := ((((c8.keep K10).keep K12).keep K13).keep K16)
  have c18 := ((((c9.keep K10).keep K12).keep K13).keep K16)
  refine o_virtualC W16 (w39 hw) (w40 hw) (o_nf W16 rfl (w42 hw)) (w42 hw) (w41 hw) (by decide) c18 (w43 hw) (w12 hw) (c17 _ W16.old (Keep.refl _ _)).1 1 0 0 (by decide) (by rw [hml]; rfl) (lenOf pd6 rfl) [(.int (own_cn x3))] rfl rfl 17 (hb hy d7_14) rfl rfl rfl all0 tri ?_
  intro v19 T19 h19 lo19 W19 K19 q19
  obtain rfl := q19.2.2
  show Gl _ _ _ _ _ _ _ _ [(.int (own_cn x3)), (.int (own_cn x3))]
  refine o_icmpY W19 68 (hb hy d7_17) (XT.ii_ge_t (own_irr _)) (by decide) rfl <| o_aloadN W19 69 (hb hy d7_68) rfl rfl rfl ?_
  have c20 := ((c14.keep K16).keep K19)
  have c21 := ((c15.keep K16).keep K19)
  refine o_virtualC W19 (w39 hw) (w40 hw) (o_nf W19 rfl (w42 hw)) (w42 hw) (w41 hw) (by decide) c21 (w43 hw) (w12 hw) (c20 _ W19.old (Keep.refl _ _)).1 0 0 0 (by decide) (by rw [hml]; rfl) (lenOf pd6 rfl) [] rfl rfl 72 (hb hy d7_69) rfl rfl rfl all0 tri ?_
  intro v22 T22 h22 lo22 W22 K22 q22
  obtain rfl := q22.2.2
  show Gl _ _ _ _ _ _ _ _ [(.int ((own_cn x1) + (own_cn x2)))]
  refine o_iloadN W22 73 (hb hy d7_72) rfl rfl <| o_isub W22 (v := (((own_cn x1) + (own_cn x2)) - (own_cn x1))) 74 (hb hy d7_73) rfl rfl <| o_aloadN W22 75 (hb hy d7_74) rfl rfl rfl ?_
  have c23 := ((c17.keep K19).keep K22)
  have c24 := ((c18.keep K19).keep K22)
  refine o_virtualC W22 (w39 hw) (w40 hw) (o_nf W22 rfl (w42 hw)) (w42 hw) (w41 hw) (by decide) c24 (w43 hw) (w12 hw) (c23 _ W22.old (Keep.refl _ _)).1 1 0 0 (by decide) (by rw [hml]; rfl) (lenOf pd6 rfl) [(.int (((own_cn x1) + (own_cn x2)) - (own_cn x1)))] rfl rfl 78 (hb hy d7_75) rfl rfl rfl all0 tri ?_
  intro v25 T25 h25 lo25 W25 K25 q25
  obtain rfl := q25.2.2
  show Gl _ _ _ _ _ _ _ _ [(.int (own_cn x3)), (.int (((own_cn x1) + (own_cn x2)) - (own_cn x1)))]
  refine o_iloadN W25 79 (hb hy d7_78) rfl rfl <| o_isub W25 (v := ((own_cn x3) - (own_cn x3))) 80 (hb hy d7_79) rfl rfl ?_
  refine o_staticC W25 (w50 hw) (w51 hw) (w52 hw) (w53 hw) (by decide) (rm199 l hw (((own_cn x1) + (own_cn x2)) - (own_cn x1)) ((own_cn x3) - (own_cn x3)) h25 W25.old (show ¬ ((((own_cn x1) + (own_cn x2)) - (own_cn x1)) < ((own_cn x3) - (own_cn x3))) by obtain ⟨g0, e0, k0⟩ : ∃ g, own_cn x1 = g ∧ (g = 1 ∨ g = 2) := ⟨_, rfl, own_cn12 _⟩; obtain ⟨g1, e1, k1⟩ : ∃ g, own_cn x2 = g ∧ (g = 1 ∨ g = 2) := ⟨_, rfl, own_cn12 _⟩; obtain ⟨g2, e2, k2⟩ : ∃ g, own_cn x3 = g ∧ (g = 1 ∨ g = 2) := ⟨_, rfl, own_cn12 _⟩; rw [e0, e1, e2]; rcases k0 with rfl | rfl <;> rcases k1 with rfl | rfl <;> rcases k2 with rfl | rfl <;> decide) (show ¬ ((((own_cn x1) + (own_cn x2)) - (own_cn x1)) = ((own_cn x3) - (own_cn x3))) by obtain ⟨g0, e0, k0⟩ : ∃ g, own_cn x1 = g ∧ (g = 1 ∨ g = 2) := ⟨_, rfl, own_cn12 _⟩; obtain ⟨g1, e1, k1⟩ : ∃ g, own_cn x2 = g ∧ (g = 1 ∨ g = 2) := ⟨_, rfl, own_cn12 _⟩; obtain ⟨g2, e2, k2⟩ : ∃ g, own_cn x3 = g ∧ (g = 1 ∨ g = 2) := ⟨_, rfl, own_cn12 _⟩; rw [e0, e1, e2]; rcases k0 with rfl | rfl <;> rcases k1 with rfl | rfl <;> rcases k2 with rfl | rfl <;> decide)) 0 0 0 (by decide) (by rw [hml]; rfl) (lenOf pd5 rfl) [] rfl rfl 83 (hb hy d7_80) rfl rfl rfl all0 tri ?_
  intro v26 T26 h26 lo26 W26 K26 q26
  obtain rfl := q26.2.2
  show Gl _ _ _ _ _ _ _ _ [(.int 1)]
  exact o_retI W26 hlk hret (hb hy d7_83) (by decide) (by decide) rfl
theorem rm212 (l : Launch) {Z a0} (hw : HW Z a0) (a1 a2 : Addr) (x1 x2 x3 : Int32) (h0 : Heap) (O0 : Old Z Z.heap.size h0) (z0 : Exa Z h0 a1 s1) (z1 : Sv l Z h0 a1 ((own_cn x1) + (own_cn x2)) [((0 : Int32), x1), ((own_cn x1), x2)]) (z2 : Exa Z h0 a2 s1) (z3 : Sv l Z h0 a2 (own_cn x3) [((0 : Int32), x3)]) (hc11 : ¬ (x1 = x3)) (hc12 : ¬ (x1 < x3)) :
    CtrN l Z mn14 prog_10_method_4_code 6 (some .int) [] (⟨7, 0, 0, 104⟩ : Room) #[(.ref a1), (.ref a2)] h0 [] (fun v h => v = some (.int 1)) := by
  refine CtrN.intro (L0 := #[vr a1, vr a2, un, un, un, un]) (plainFor_of_name pn4) O0 (own_entry rfl) ?_
  intro p e s m below meth c T0 hy hml hret hlk hnm W0
  refine o_iconst W0 (v := 0) 1 (hb hy d7_0) rfl rfl <| o_istoreN W0 (L' := #[vr a1, vr a2, vi 0, un, un, un]) 2 (hb hy d7_1) rfl rfl <| o_iconst W0 (v := 0) 3 (hb hy d7_2) rfl rfl <| o_istoreN W0 (L' := #[vr a1, vr a2, vi 0, vi 0, un, un]) 4 (hb hy d7_3) rfl rfl <| o_iloadN W0 5 (hb hy d7_4) rfl rfl <| o_aloadN W0 6 (hb hy d7_5) rfl rfl rfl ?_
  refine o_virtualC W0 (w39 hw) (w40 hw) (o_nf W0 rfl (w42 hw)) (w42 hw) (w41 hw) (by decide) z0 (w43 hw) (w12 hw) (z1 _ W0.old (Keep.refl _ _)).1 1 0 0 (by decide) (by rw [hml]; rfl) (lenOf pd6 rfl) [iZ] rfl rfl 9 (hb hy d7_6) rfl rfl rfl all0 tri ?_
  intro v1 T1 h1 lo1 W1 K1 q1
  obtain rfl := q1.2.2
  show Gl _ _ _ _ _ _ _ _ [(.int ((own_cn x1) + (own_cn x2))), iZ]
  refine o_icmpN W1 12 (hb hy d7_9) (XT.ii_ge_f (show (0 : Int32) < ((own_cn x1) + (own_cn x2)) by obtain ⟨g0, e0, k0⟩ : ∃ g, own_cn x1 = g ∧ (g = 1 ∨ g = 2) := ⟨_, rfl, own_cn12 _⟩; obtain ⟨g1, e1, k1⟩ : ∃ g, own_cn x2 = g ∧ (g = 1 ∨ g = 2) := ⟨_, rfl, own_cn12 _⟩; rw [e0, e1]; rcases k0 with rfl | rfl <;> rcases k1 with rfl | rfl <;> decide)) rfl <| o_iloadN W1 13 (hb hy d7_12) rfl rfl <| o_aloadN W1 14 (hb hy d7_13) rfl rfl rfl ?_
  have c2 := (z2.keep K1)
  have c3 := (z3.keep K1)
  refine o_virtualC W1 (w39 hw) (w40 hw) (o_nf W1 rfl (w42 hw)) (w42 hw) (w41 hw) (by decide) c2 (w43 hw) (w12 hw) (c3 _ W1.old (Keep.refl _ _)).1 1 0 0 (by decide) (by rw [hml]; rfl) (lenOf pd6 rfl) [iZ] rfl rfl 17 (hb hy d7_14) rfl rfl rfl all0 tri ?_
  intro v4 T4 h4 lo4 W4 K4 q4
  obtain rfl := q4.2.2
  show Gl _ _ _ _ _ _ _ _ [(.int (own_cn x3)), iZ]
  refine o_icmpN W4 20 (hb hy d7_17) (XT.ii_ge_f (show (0 : Int32) < (own_cn x3) by obtain ⟨g0, e0, k0⟩ : ∃ g, own_cn x3 = g ∧ (g = 1 ∨ g = 2) := ⟨_, rfl, own_cn12 _⟩; rw [e0]; rcases k0 with rfl | rfl <;> decide)) rfl <| o_aloadN W4 21 (hb hy d7_20) rfl rfl rfl <| o_iloadN W4 22 (hb hy d7_21) rfl rfl ?_
  have c5 := ((z1.keep K1).keep K4)
  have c6 := ((z0.keep K1).keep K4)
  refine o_virtualC W4 (w68 hw) (w69 hw) (o_nf W4 rfl (w71 hw)) (w71 hw) (w70 hw) (by decide) c6 (w72 hw) (w12 hw) (al_h (c5 _ W4.old (Keep.refl _ _)).2) 0 0 0 (by decide) (by rw [hml]; rfl) (lenOf pd8 rfl) [] rfl rfl 25 (hb hy d7_22) rfl rfl rfl all0 tri ?_
  intro v7 T7 h7 lo7 W7 K7 q7
  obtain rfl := q7.2.2
  show Gl _ _ _ _ _ _ _ _ [(.int x1)]
  refine o_istore W7 (L' := #[vr a1, vr a2, vi 0, vi 0, vi x1, un]) 27 (hb hy d7_25) rfl rfl <| o_aloadN W7 28 (hb hy d7_27) rfl rfl rfl <| o_iloadN W7 29 (hb hy d7_28) rfl rfl ?_
  have c8 := ((c3.keep K4).keep K7)
  have c9 := ((c2.keep K4).keep K7)
  refine o_virtualC W7 (w68 hw) (w69 hw) (o_nf W7 rfl (w71 hw)) (w71 hw) (w70 hw) (by decide) c9 (w72 hw) (w12 hw) (al_h (c8 _ W7.old (Keep.refl _ _)).2) 0 0 0 (by decide) (by rw [hml]; rfl) (lenOf pd8 rfl) [] rfl rfl 32 (hb hy d7_29) rfl rfl rfl all0 tri ?_
  intro v10 T10 h10 lo10 W10 K10 q10
  obtain rfl := q10.2.2
  show Gl _ _ _ _ _ _ _ _ [(.int x3)]
  refine o_istore W10 (L' := #[vr a1, vr a2, vi 0, vi 0, vi x1, vi x3]) 34 (hb hy d7_32) rfl rfl <| o_iload W10 36 (hb hy d7_34) rfl rfl <| o_iload W10 38 (hb hy d7_36) rfl rfl <| o_icmpN W10 41 (hb hy d7_38) (XT.ii_eq_f hc11) rfl <| o_iload W10 43 (hb hy d7_41) rfl rfl <| o_iload W10 45 (hb hy d7_43) rfl rfl ?_
  refine o_staticC W10 (w50 hw) (w51 hw) (w52 hw) (w53 hw) (by decide) (rm199 l hw x1 x3 h10 W10.old hc12 hc11) 0 0 0 (by decide) (by rw [hml]; rfl) (lenOf pd5 rfl) [] rfl rfl 48 (hb hy d7_45) rfl rfl rfl all0 tri ?_
  intro v13 T13 h13 lo13 W13 K13 q13
  obtain rfl := q13.2.2
  show Gl _ _ _ _ _ _ _ _ [(.int 1)]
  exact o_retI W13 hlk hret (hb hy d7_48) (by decide) (by decide) rfl
theorem rm213 (l : Launch) {Z a0} (hw : HW Z a0) (a1 a2 : Addr) (x1 x2 x3 : Int32) (h0 : Heap) (O0 : Old Z Z.heap.size h0) (z0 : Exa Z h0 a1 s1) (z1 : Sv l Z h0 a1 ((own_cn x1) + (own_cn x2)) [((0 : Int32), x1), ((own_cn x1), x2)]) (z2 : Exa Z h0 a2 s1) (z3 : Sv l Z h0 a2 (own_cn x3) [((0 : Int32), x3)]) (hc11 : ¬ (x1 = x3)) (hc12 : x1 < x3) :
    CtrN l Z mn14 prog_10_method_4_code 6 (some .int) [] (⟨7, 0, 0, 104⟩ : Room) #[(.ref a1), (.ref a2)] h0 [] (fun v h => v = some (.int (-1 : Int32))) := by
  refine CtrN.intro (L0 := #[vr a1, vr a2, un, un, un, un]) (plainFor_of_name pn4) O0 (own_entry rfl) ?_
  intro p e s m below meth c T0 hy hml hret hlk hnm W0
  refine o_iconst W0 (v := 0) 1 (hb hy d7_0) rfl rfl <| o_istoreN W0 (L' := #[vr a1, vr a2, vi 0, un, un, un]) 2 (hb hy d7_1) rfl rfl <| o_iconst W0 (v := 0) 3 (hb hy d7_2) rfl rfl <| o_istoreN W0 (L' := #[vr a1, vr a2, vi 0, vi 0, un, un]) 4 (hb hy d7_3) rfl rfl <| o_iloadN W0 5 (hb hy d7_4) rfl rfl <| o_aloadN W0 6 (hb hy d7_5) rfl rfl rfl ?_
  refine o_virtualC W0 (w39 hw) (w40 hw) (o_nf W0 rfl (w42 hw)) (w42 hw) (w41 hw) (by decide) z0 (w43 hw) (w12 hw) (z1 _ W0.old (Keep.refl _ _)).1 1 0 0 (by decide) (by rw [hml]; rfl) (lenOf pd6 rfl) [iZ] rfl rfl 9 (hb hy d7_6) rfl rfl rfl all0 tri ?_
  intro v1 T1 h1 lo1 W1 K1 q1
  obtain rfl := q1.2.2
  show Gl _ _ _ _ _ _ _ _ [(.int ((own_cn x1) + (own_cn x2))), iZ]
  refine o_icmpN W1 12 (hb hy d7_9) (XT.ii_ge_f (show (0 : Int32) < ((own_cn x1) + (own_cn x2)) by obtain ⟨g0, e0, k0⟩ : ∃ g, own_cn x1 = g ∧ (g = 1 ∨ g = 2) := ⟨_, rfl, own_cn12 _⟩; obtain ⟨g1, e1, k1⟩ : ∃ g, own_cn x2 = g ∧ (g = 1 ∨ g = 2) := ⟨_, rfl, own_cn12 _⟩; rw [e0, e1]; rcases k0 with rfl | rfl <;> rcases k1 with rfl | rfl <;> decide)) rfl <| o_iloadN W1 13 (hb hy d7_12) rfl rfl <| o_aloadN W1 14 (hb hy d7_13) rfl rfl rfl ?_
  have c2 := (z2.keep K1)
  have c3 := (z3.keep K1)
  refine o_virtualC W1 (w39 hw) (w40 hw) (o_nf W1 rfl (w42 hw)) (w42 hw) (w41 hw) (by decide) c2 (w43 hw) (w12 hw) (c3 _ W1.old (Keep.refl _ _)).1 1 0 0 (by decide) (by rw [hml]; rfl) (lenOf pd6 rfl) [iZ] rfl rfl 17 (hb hy d7_14) rfl rfl rfl all0 tri ?_
  intro v4 T4 h4 lo4 W4 K4 q4
  obtain rfl := q4.2.2
  show Gl _ _ _ _ _ _ _ _ [(.int (own_cn x3)), iZ]
  refine o_icmpN W4 20 (hb hy d7_17) (XT.ii_ge_f (show (0 : Int32) < (own_cn x3) by obtain ⟨g0, e0, k0⟩ : ∃ g, own_cn x3 = g ∧ (g = 1 ∨ g = 2) := ⟨_, rfl, own_cn12 _⟩; rw [e0]; rcases k0 with rfl | rfl <;> decide)) rfl <| o_aloadN W4 21 (hb hy d7_20) rfl rfl rfl <| o_iloadN W4 22 (hb hy d7_21) rfl rfl ?_
  have c5 := ((z1.keep K1).keep K4)
  have c6 := ((z0.keep K1).keep K4)
  refine o_virtualC W4 (w68 hw) (w69 hw) (o_nf W4 rfl (w71 hw)) (w71 hw) (w70 hw) (by decide) c6 (w72 hw) (w12 hw) (al_h (c5 _ W4.old (Keep.refl _ _)).2) 0 0 0 (by decide) (by rw [hml]; rfl) (lenOf pd8 rfl) [] rfl rfl 25 (hb hy d7_22) rfl rfl rfl all0 tri ?_
  intro v7 T7 h7 lo7 W7 K7 q7
  obtain rfl := q7.2.2
  show Gl _ _ _ _ _ _ _ _ [(.int x1)]
  refine o_istore W7 (L' := #[vr a1, vr a2, vi 0, vi 0, vi x1, un]) 27 (hb hy d7_25) rfl rfl <| o_aloadN W7 28 (hb hy d7_27) rfl rfl rfl <| o_iloadN W7 29 (hb hy d7_28) rfl rfl ?_
  have c8 := ((c3.keep K4).keep K7)
  have c9 := ((c2.keep K4).keep K7)
  refine o_virtualC W7 (w68 hw) (w69 hw) (o_nf W7 rfl (w71 hw)) (w71 hw) (w70 hw) (by decide) c9 (w72 hw) (w12 hw) (al_h (c8 _ W7.old (Keep.refl _ _)).2) 0 0 0 (by decide) (by rw [hml]; rfl) (lenOf pd8 rfl) [] rfl rfl 32 (hb hy d7_29) rfl rfl rfl all0 tri ?_
  intro v10 T10 h10 lo10 W10 K10 q10
  obtain rfl := q10.2.2
  show Gl _ _ _ _ _ _ _ _ [(.int x3)]
  refine o_istore W10 (L' := #[vr a1, vr a2, vi 0, vi 0, vi x1, vi x3]) 34 (hb hy d7_32) rfl rfl <| o_iload W10 36 (hb hy d7_34) rfl rfl <| o_iload W10 38 (hb hy d7_36) rfl rfl <| o_icmpN W10 41 (hb hy d7_38) (XT.ii_eq_f hc11) rfl <| o_iload W10 43 (hb hy d7_41) rfl rfl <| o_iload W10 45 (hb hy d7_43) rfl rfl ?_
  refine o_staticC W10 (w50 hw) (w51 hw) (w52 hw) (w53 hw) (by decide) (rm202 l hw x1 x3 h10 W10.old hc12) 0 0 0 (by decide) (by rw [hml]; rfl) (lenOf pd5 rfl) [] rfl rfl 48 (hb hy d7_45) rfl rfl rfl all0 tri ?_
  intro v13 T13 h13 lo13 W13 K13 q13
  obtain rfl := q13.2.2
  show Gl _ _ _ _ _ _ _ _ [(.int (-1 : Int32))]
  exact o_retI W13 hlk hret (hb hy d7_48) (by decide) (by decide) rfl
theorem rm214 (l : Launch) {Z a0} (hw : HW Z a0)  (h0 : Heap) (O0 : Old Z Z.heap.size h0) :
    CtrN l Z mn12 method_3_code 2 (some .int) [] (⟨0, 0, 0, 0⟩ : Room) #[(.int 2), (.int 2)] h0 [] (fun v h => v = some iZ) := by
  refine CtrN.intro (L0 := #[vi 2, vi 2]) (plainFor_of_name pn0) O0 (own_entry rfl) ?_
  intro p e s m below meth c T0 hy hml hret hlk hnm W0
  refine o_iloadN W0 1 (hb hy d6_0) rfl rfl <| o_iloadN W0 2 (hb hy d6_1) rfl rfl <| o_icmpY W0 9 (hb hy d6_2) (XT.ii_ge_t (by decide)) (by decide) rfl <| o_iloadN W0 10 (hb hy d6_9) rfl rfl <| o_iloadN W0 11 (hb hy d6_10) rfl rfl <| o_icmpY W0 18 (hb hy d6_11) (XT.ii_le_t (by decide)) (by decide) rfl ?_
  refine o_iconst W0 (v := 0) 19 (hb hy d6_18) rfl rfl ?_
  exact o_retI W0 hlk hret (hb hy d6_19) (by decide) (by decide) rfl
theorem rm215 (l : Launch) {Z a0} (hw : HW Z a0) (a1 a2 : Addr) (x1 x2 x3 x4 : Int32) (h0 : Heap) (O0 : Old Z Z.heap.size h0) (z0 : Exa Z h0 a1 s1) (z1 : Sv l Z h0 a1 ((own_cn x1) + (own_cn x2)) [((0 : Int32), x1), ((own_cn x1), x2)]) (z2 : Exa Z h0 a2 s1) (z3 : Sv l Z h0 a2 ((own_cn x3) + (own_cn x4)) [((0 : Int32), x3), ((own_cn x3), x4)]) (hc11 : x1 = x3) (hc26 : x2 = x4) :
    CtrN l Z mn14 prog_10_method_4_code 6 (some .int) [] (⟨7, 0, 0, 104⟩ : Room) #[(.ref a1), (.ref a2)] h0 [] (fun v h => v = some iZ) := by
  refine CtrN.intro (L0 := #[vr a1, vr a2, un, un, un, un]) (plainFor_of_name pn4) O0 (own_entry rfl) ?_
  intro p e s m below meth c T0 hy hml hret hlk hnm W0
  refine o_iconst W0 (v := 0) 1 (hb hy d7_0) rfl rfl <| o_istoreN W0 (L' := #[vr a1, vr a2, vi 0, un, un, un]) 2 (hb hy d7_1) rfl rfl <| o_iconst W0 (v := 0) 3 (hb hy d7_2) rfl rfl <| o_istoreN W0 (L' := #[vr a1, vr a2, vi 0, vi 0, un, un]) 4 (hb hy d7_3) rfl rfl <| o_iloadN W0 5 (hb hy d7_4) rfl rfl <| o_aloadN W0 6 (hb hy d7_5) rfl rfl rfl ?_
  refine o_virtualC W0 (w39 hw) (w40 hw) (o_nf W0 rfl (w42 hw)) (w42 hw) (w41 hw) (by decide) z0 (w43 hw) (w12 hw) (z1 _ W0.old (Keep.refl _ _)).1 1 0 0 (by decide) (by rw [hml]; rfl) (lenOf pd6 rfl) [iZ] rfl rfl 9 (hb hy d7_6) rfl rfl rfl all0 tri ?_
  intro v1 T1 h1 lo1 W1 K1 q1
  obtain rfl := q1.2.2
  show Gl _ _ _ _ _ _ _ _ [(.int ((own_cn x1) + (own_cn x2))), iZ]
  refine o_icmpN W1 12 (hb hy d7_9) (XT.ii_ge_f (show (0 : Int32) < ((own_cn x1) + (own_cn x2)) by obtain ⟨g0, e0, k0⟩ : ∃ g, own_cn x1 = g ∧ (g = 1 ∨ g = 2) := ⟨_, rfl, own_cn12 _⟩; obtain ⟨g1, e1, k1⟩ : ∃ g, own_cn x2 = g ∧ (g = 1 ∨ g = 2) := ⟨_, rfl, own_cn12 _⟩; rw [e0, e1]; rcases k0 with rfl | rfl <;> rcases k1 with rfl | rfl <;> decide)) rfl <| o_iloadN W1 13 (hb hy d7_12) rfl rfl <| o_aloadN W1 14 (hb hy d7_13) rfl rfl rfl ?_
  have c2 := (z2.keep K1)
  have c3 := (z3.keep K1)
  refine o_virtualC W1 (w39 hw) (w40 hw) (o_nf W1 rfl (w42 hw)) (w42 hw) (w41 hw) (by decide) c2 (w43 hw) (w12 hw) (c3 _ W1.old (Keep.refl _ _)).1 1 0 0 (by decide) (by rw [hml]; rfl) (lenOf pd6 rfl) [iZ] rfl rfl 17 (hb hy d7_14) rfl rfl rfl all0 tri ?_
  intro v4 T4 h4 lo4 W4 K4 q4
  obtain rfl := q4.2.2
  show Gl _ _ _ _ _ _ _ _ [(.int ((own_cn x3) + (own_cn x4))), iZ]
  refine o_icmpN W4 20 (hb hy d7_17) (XT.ii_ge_f (show (0 : Int32) < ((own_cn x3) + (own_cn x4)) by obtain ⟨g0, e0, k0⟩ : ∃ g, own_cn x3 = g ∧ (g = 1 ∨ g = 2) := ⟨_, rfl, own_cn12 _⟩; obtain ⟨g1, e1, k1⟩ : ∃ g, own_cn x4 = g ∧ (g = 1 ∨ g = 2) := ⟨_, rfl, own_cn12 _⟩; rw [e0, e1]; rcases k0 with rfl | rfl <;> rcases k1 with rfl | rfl <;> decide)) rfl <| o_aloadN W4 21 (hb hy d7_20) rfl rfl rfl <| o_iloadN W4 22 (hb hy d7_21) rfl rfl ?_
  have c5 := ((z1.keep K1).keep K4)
  have c6 := ((z0.keep K1).keep K4)
  refine o_virtualC W4 (w68 hw) (w69 hw) (o_nf W4 rfl (w71 hw)) (w71 hw) (w70 hw) (by decide) c6 (w72 hw) (w12 hw) (al_h (c5 _ W4.old (Keep.refl _ _)).2) 0 0 0 (by decide) (by rw [hml]; rfl) (lenOf pd8 rfl) [] rfl rfl 25 (hb hy d7_22) rfl rfl rfl all0 tri ?_
  intro v7 T7 h7 lo7 W7 K7 q7
  obtain rfl := q7.2.2
  show Gl _ _ _ _ _ _ _ _ [(.int x1)]
  refine o_istore W7 (L' := #[vr a1, vr a2, vi 0, vi 0, vi x1, un]) 27 (hb hy d7_25) rfl rfl <| o_aloadN W7 28 (hb hy d7_27) rfl rfl rfl <| o_iloadN W7 29 (hb hy d7_28) rfl rfl ?_
  have c8 := ((c3.keep K4).keep K7)
  have c9 := ((c2.keep K4).keep K7)
  refine o_virtualC W7 (w68 hw) (w69 hw) (o_nf W7 rfl (w71 hw)) (w71 hw) (w70 hw) (by decide) c9 (w72 hw) (w12 hw) (al_h (c8 _ W7.old (Keep.refl _ _)).2) 0 0 0 (by decide) (by rw [hml]; rfl) (lenOf pd8 rfl) [] rfl rfl 32 (hb hy d7_29) rfl rfl rfl all0 tri ?_
  intro v10 T10 h10 lo10 W10 K10 q10
  obtain rfl := q10.2.2
  show Gl _ _ _ _ _ _ _ _ [(.int x3)]
  refine o_istore W10 (L' := #[vr a1, vr a2, vi 0, vi 0, vi x1, vi x3]) 34 (hb hy d7_32) rfl rfl <| o_iload W10 36 (hb hy d7_34) rfl rfl <| o_iload W10 38 (hb hy d7_36) rfl rfl <| o_icmpY W10 49 (hb hy d7_38) (XT.ii_eq_t hc11) (by decide) rfl <| o_iloadN W10 50 (hb hy d7_49) rfl rfl <| o_iload W10 52 (hb hy d7_50) rfl rfl ?_
  refine o_staticC W10 (w113 hw) (w114 hw) (w115 hw) (w116 hw) (by decide) (rm3 l hw x1 h10 W10.old ) 1 0 0 (by decide) (by rw [hml]; rfl) (lenOf pd8 rfl) [iZ] rfl rfl 55 (hb hy d7_52) rfl rfl rfl all0 tri ?_
  intro v12 T12 h12 lo12 W12 K12 q12
  obtain rfl := q12.2.2
  show Gl _ _ _ _ _ _ _ _ [(.int (own_cn x1)), iZ]
  refine o_iadd W12 (v := (own_cn x1)) 56 (hb hy d7_55) (own_z0 _) rfl <| o_istoreN W12 (L' := #[vr a1, vr a2, vi (own_cn x1), vi 0, vi x1, vi x3]) 57 (hb hy d7_56) rfl rfl <| o_iloadN W12 58 (hb hy d7_57) rfl rfl <| o_iload W12 60 (hb hy d7_58) rfl rfl ?_
  refine o_staticC W12 (w113 hw) (w114 hw) (w115 hw) (w116 hw) (by decide) (rm3 l hw x3 h12 W12.old ) 1 0 0 (by decide) (by rw [hml]; rfl) (lenOf pd8 rfl) [iZ] rfl rfl 63 (hb hy d7_60) rfl rfl rfl all0 tri ?_
  intro v13 T13 h13 lo13 W13 K13 q13
  obtain rfl := q13.2.2
  show Gl _ _ _ _ _ _ _ _ [(.int (own_cn x3)), iZ]
  refine o_iadd W13 (v := (own_cn x3)) 64 (hb hy d7_63) (own_z0 _) rfl <| o_istoreN W13 (L' := #[vr a1, vr a2, vi (own_cn x1), vi (own_cn x3), vi x1, vi x3]) 65 (hb hy d7_64) rfl rfl <| o_goto W13 4 (hb hy d7_65) (by decide) rfl <| o_iloadN W13 5 (hb hy d7_4) rfl rfl <| o_aloadN W13 6 (hb hy d7_5) rfl rfl rfl ?_
  have c14 := ((((c5.keep K7).keep K10).keep K12).keep K13)
  have c15 := ((((c6.keep K7).keep K10).keep K12).keep K13)
  refine o_virtualC W13 (w39 hw) (w40 hw) (o_nf W13 rfl (w42 hw)) (w42 hw) (w41 hw) (by decide) c15 (w43 hw) (w12 hw) (c14 _ W13.old (Keep.refl _ _)).1 1 0 0 (by decide) (by rw [hml]; rfl) (lenOf pd6 rfl) [(.int (own_cn x1))] rfl rfl 9 (hb hy d7_6) rfl rfl rfl all0 tri ?_
  intro v16 T16 h16 lo16 W16 K16 q16
  obtain rfl := q16.2.2
  show Gl _ _ _ _ _ _ _ _ [(.int ((own_cn x1) + (own_cn x2))), (.int (own_cn x1))]
  refine o_icmpN W16 12 (hb hy d7_9) (XT.ii_ge_f (show (own_cn x1) < ((own_cn x1) + (own_cn x2)) by obtain ⟨g0, e0, k0⟩ : ∃ g, own_cn x1 = g ∧ (g = 1 ∨ g = 2) := ⟨_, rfl, own_cn12 _⟩; obtain ⟨g1, e1, k1⟩ : ∃ g, own_cn x2 = g ∧ (g = 1 ∨ g = 2) := ⟨_, rfl, own_cn12 _⟩; rw [e0, e1]; rcases k0 with rfl | rfl <;> rcases k1 with rfl | rfl <;> decide)) rfl <| o_iloadN W16 13 (hb hy d7_12) rfl rfl <| o_aloadN W16 14 (hb hy d7_13) rfl rfl rfl ?_
  have c17 := ((((c8.keep K10).keep K12).keep K13).keep K16)
  have c18 := ((((c9.keep K10).keep K12).keep K13).keep K16)
  refine o_virtualC W16 (w39 hw) (w40 hw) (o_nf W16 rfl (w42 hw)) (w42 hw) (w41 hw) (by decide) c18 (w43 hw) (w12 hw) (c17 _ W16.old (Keep.refl _ _)).1 1 0 0 (by decide) (by rw [hml]; rfl) (lenOf pd6 rfl) [(.int (own_cn x3))] rfl rfl 17 (hb hy d7_14) rfl rfl rfl all0 tri ?_
  intro v19 T19 h19 lo19 W19 K19 q19
  obtain rfl := q19.2.2
  show Gl _ _ _ _ _ _ _ _ [(.int ((own_cn x3) + (own_cn x4))), (.int (own_cn x3))]
  refine o_icmpN W19 20 (hb hy d7_17) (XT.ii_ge_f (show (own_cn x3) < ((own_cn x3) + (own_cn x4)) by obtain ⟨g0, e0, k0⟩ : ∃ g, own_cn x3 = g ∧ (g = 1 ∨ g = 2) := ⟨_, rfl, own_cn12 _⟩; obtain ⟨g1, e1, k1⟩ : ∃ g, own_cn x4 = g ∧ (g = 1 ∨ g = 2) := ⟨_, rfl, own_cn12 _⟩; rw [e0, e1]; rcases k0 with rfl | rfl <;> rcases k1 with rfl | rfl <;> decide)) rfl <| o_aloadN W19 21 (hb hy d7_20) rfl rfl rfl <| o_iloadN W19 22 (hb hy d7_21) rfl rfl ?_
  have c20 := ((c14.keep K16).keep K19)
  have c21 := ((c15.keep K16).keep K19)
  refine o_virtualC W19 (w68 hw) (w69 hw) (o_nf W19 rfl (w71 hw)) (w71 hw) (w70 hw) (by decide) c21 (w72 hw) (w12 hw) (al_h (al_t (c20 _ W19.old (Keep.refl _ _)).2)) 0 0 0 (by decide) (by rw [hml]; rfl) (lenOf pd8 rfl) [] rfl rfl 25 (hb hy d7_22) rfl rfl rfl all0 tri ?_
  intro v22 T22 h22 lo22 W22 K22 q22
  obtain rfl := q22.2.2
  show Gl _ _ _ _ _ _ _ _ [(.int x2)]
  refine o_istore W22 (L' := #[vr a1, vr a2, vi (own_cn x1), vi (own_cn x3), vi x2, vi x3]) 27 (hb hy d7_25) rfl rfl <| o_aloadN W22 28 (hb hy d7_27) rfl rfl rfl <| o_iloadN W22 29 (hb hy d7_28) rfl rfl ?_
  have c23 := ((c17.keep K19).keep K22)
  have c24 := ((c18.keep K19).keep K22)
  refine o_virtualC W22 (w68 hw) (w69 hw) (o_nf W22 rfl (w71 hw)) (w71 hw) (w70 hw) (by decide) c24 (w72 hw) (w12 hw) (al_h (al_t (c23 _ W22.old (Keep.refl _ _)).2)) 0 0 0 (by decide) (by rw [hml]; rfl) (lenOf pd8 rfl) [] rfl rfl 32 (hb hy d7_29) rfl rfl rfl all0 tri ?_
  intro v25 T25 h25 lo25 W25 K25 q25
  obtain rfl := q25.2.2
  show Gl _ _ _ _ _ _ _ _ [(.int x4)]
  refine o_istore W25 (L' := #[vr a1, vr a2, vi (own_cn x1), vi (own_cn x3), vi x2, vi x4]) 34 (hb hy d7_32) rfl rfl <| o_iload W25 36 (hb hy d7_34) rfl rfl <| o_iload W25 38 (hb hy d7_36) rfl rfl <| o_icmpY W25 49 (hb hy d7_38) (XT.ii_eq_t hc26) (by decide) rfl <| o_iloadN W25 50 (hb hy d7_49) rfl rfl <| o_iload W25 52 (hb hy d7_50) rfl rfl ?_
  refine o_staticC W25 (w113 hw) (w114 hw) (w115 hw) (w116 hw) (by decide) (rm3 l hw x2 h25 W25.old ) 1 0 0 (by decide) (by rw [hml]; rfl) (lenOf pd8 rfl) [(.int (own_cn x1))] rfl rfl 55 (hb hy d7_52) rfl rfl rfl all0 tri ?_
  intro v27 T27 h27 lo27 W27 K27 q27
  obtain rfl := q27.2.2
  show Gl _ _ _ _ _ _ _ _ [(.int (own_cn x2)), (.int (own_cn x1))]
  refine o_iadd W27 (v := ((own_cn x1) + (own_cn x2))) 56 (hb hy d7_55) rfl rfl <| o_istoreN W27 (L' := #[vr a1, vr a2, vi ((own_cn x1) + (own_cn x2)), vi (own_cn x3), vi x2, vi x4]) 57 (hb hy d7_56) rfl rfl <| o_iloadN W27 58 (hb hy d7_57) rfl rfl <| o_iload W27 60 (hb hy d7_58) rfl rfl ?_
  refine o_staticC W27 (w113 hw) (w114 hw) (w115 hw) (w116 hw) (by decide) (rm3 l hw x4 h27 W27.old ) 1 0 0 (by decide) (by rw [hml]; rfl) (lenOf pd8 rfl) [(.int (own_cn x3))] rfl rfl 63 (hb hy d7_60) rfl rfl rfl all0 tri ?_
  intro v28 T28 h28 lo28 W28 K28 q28
  obtain rfl := q28.2.2
  show Gl _ _ _ _ _ _ _ _ [(.int (own_cn x4)), (.int (own_cn x3))]
  refine o_iadd W28 (v := ((own_cn x3) + (own_cn x4))) 64 (hb hy d7_63) rfl rfl <| o_istoreN W28 (L' := #[vr a1, vr a2, vi ((own_cn x1) + (own_cn x2)), vi ((own_cn x3) + (own_cn x4)), vi x2, vi x4]) 65 (hb hy d7_64) rfl rfl <| o_goto W28 4 (hb hy d7_65) (by decide) rfl <| o_iloadN W28 5 (hb hy d7_4) rfl rfl <| o_aloadN W28 6 (hb hy d7_5) rfl rfl rfl ?_
  have c29 := ((((c20.keep K22).keep K25).keep K27).keep K28)
  have c30 := ((((c21.keep K22).keep K25).keep K27).keep K28)
  refine o_virtualC W28 (w39 hw) (w40 hw) (o_nf W28 rfl (w42 hw)) (w42 hw) (w41 hw) (by decide) c30 (w43 hw) (w12 hw) (c29 _ W28.old (Keep.refl _ _)).1 1 0 0 (by decide) (by rw [hml]; rfl) (lenOf pd6 rfl) [(.int ((own_cn x1) + (own_cn x2)))] rfl rfl 9 (hb hy d7_6) rfl rfl rfl all0 tri ?_
  intro v31 T31 h31 lo31 W31 K31 q31
  obtain rfl := q31.2.2
  show Gl _ _ _ _ _ _ _ _ [(.int ((own_cn x1) + (own_cn x2))), (.int ((own_cn x1) + (own_cn x2)))]
  refine o_icmpY W31 68 (hb hy d7_9) (XT.ii_ge_t (own_irr _)) (by decide) rfl <| o_aloadN W31 69 (hb hy d7_68) rfl rfl rfl ?_
  have c32 := (c29.keep K31)
  have c33 := (c30.keep K31)
  refine o_virtualC W31 (w39 hw) (w40 hw) (o_nf W31 rfl (w42 hw)) (w42 hw) (w41 hw) (by decide) c33 (w43 hw) (w12 hw) (c32 _ W31.old (Keep.refl _ _)).1 0 0 0 (by decide) (by rw [hml]; rfl) (lenOf pd6 rfl) [] rfl rfl 72 (hb hy d7_69) rfl rfl rfl all0 tri ?_
  intro v34 T34 h34 lo34 W34 K34 q34
  obtain rfl := q34.2.2
  show Gl _ _ _ _ _ _ _ _ [(.int ((own_cn x1) + (own_cn x2)))]
  refine o_iloadN W34 73 (hb hy d7_72) rfl rfl <| o_isub W34 (v := (((own_cn x1) + (own_cn x2)) - ((own_cn x1) + (own_cn x2)))) 74 (hb hy d7_73) rfl rfl <| o_aloadN W34 75 (hb hy d7_74) rfl rfl rfl ?_
  have c35 := (((((c23.keep K25).keep K27).keep K28).keep K31).keep K34)
  have c36 := (((((c24.keep K25).keep K27).keep K28).keep K31).keep K34)
  refine o_virtualC W34 (w39 hw) (w40 hw) (o_nf W34 rfl (w42 hw)) (w42 hw) (w41 hw) (by decide) c36 (w43 hw) (w12 hw) (c35 _ W34.old (Keep.refl _ _)).1 1 0 0 (by decide) (by rw [hml]; rfl) (lenOf pd6 rfl) [(.int (((own_cn x1) + (own_cn x2)) - ((own_cn x1) + (own_cn x2))))] rfl rfl 78 (hb hy d7_75) rfl rfl rfl all0 tri ?_
  intro v37 T37 h37 lo37 W37 K37 q37
  obtain rfl := q37.2.2
  show Gl _ _ _ _ _ _ _ _ [(.int ((own_cn x3) + (own_cn x4))), (.int (((own_cn x1) + (own_cn x2)) - ((own_cn x1) + (own_cn x2))))]
  refine o_iloadN W37 79 (hb hy d7_78) rfl rfl <| o_isub W37 (v := (((own_cn x3) + (own_cn x4)) - ((own_cn x3) + (own_cn x4)))) 80 (hb hy d7_79) rfl rfl ?_
  refine o_staticC W37 (w50 hw) (w51 hw) (w52 hw) (w53 hw) (by decide) (rm196 l hw (((own_cn x1) + (own_cn x2)) - ((own_cn x1) + (own_cn x2))) (((own_cn x3) + (own_cn x4)) - ((own_cn x3) + (own_cn x4))) h37 W37.old (show ¬ ((((own_cn x1) + (own_cn x2)) - ((own_cn x1) + (own_cn x2))) < (((own_cn x3) + (own_cn x4)) - ((own_cn x3) + (own_cn x4)))) by obtain ⟨g0, e0, k0⟩ : ∃ g, own_cn x1 = g ∧ (g = 1 ∨ g = 2) := ⟨_, rfl, own_cn12 _⟩; obtain ⟨g1, e1, k1⟩ : ∃ g, own_cn x2 = g ∧ (g = 1 ∨ g = 2) := ⟨_, rfl, own_cn12 _⟩; obtain ⟨g2, e2, k2⟩ : ∃ g, own_cn x3 = g ∧ (g = 1 ∨ g = 2) := ⟨_, rfl, own_cn12 _⟩; obtain ⟨g3, e3, k3⟩ : ∃ g, own_cn x4 = g ∧ (g = 1 ∨ g = 2) := ⟨_, rfl, own_cn12 _⟩; rw [e0, e1, e2, e3]; rcases k0 with rfl | rfl <;> rcases k1 with rfl | rfl <;> rcases k2 with rfl | rfl <;> rcases k3 with rfl | rfl <;> decide) (show (((own_cn x1) + (own_cn x2)) - ((own_cn x1) + (own_cn x2))) = (((own_cn x3) + (own_cn x4)) - ((own_cn x3) + (own_cn x4))) by obtain ⟨g0, e0, k0⟩ : ∃ g, own_cn x1 = g ∧ (g = 1 ∨ g = 2) := ⟨_, rfl, own_cn12 _⟩; obtain ⟨g1, e1, k1⟩ : ∃ g, own_cn x2 = g ∧ (g = 1 ∨ g = 2) := ⟨_, rfl, own_cn12 _⟩; obtain ⟨g2, e2, k2⟩ : ∃ g, own_cn x3 = g ∧ (g = 1 ∨ g = 2) := ⟨_, rfl, own_cn12 _⟩; obtain ⟨g3, e3, k3⟩ : ∃ g, own_cn x4 = g ∧ (g = 1 ∨ g = 2) := ⟨_, rfl, own_cn12 _⟩; rw [e0, e1, e2, e3]; rcases k0 with rfl | rfl <;> rcases k1 with rfl | rfl <;> rcases k2 with rfl | rfl <;> rcases k3 with rfl | rfl <;> decide)) 0 0 0 (by decide) (by rw [hml]; rfl) (lenOf pd5 rfl) [] rfl rfl 83 (hb hy d7_80) rfl rfl rfl all0 tri ?_
  intro v38 T38 h38 lo38 W38 K38 q38
  obtain rfl := q38.2.2
  show Gl _ _ _ _ _ _ _ _ [iZ]
  exact o_retI W38 hlk hret (hb hy d7_83) (by decide) (by decide) rfl
theorem rm216 (l : Launch) {Z a0} (hw : HW Z a0) (a1 a2 : Addr) (x1 x2 x3 x4 : Int32) (h0 : Heap) (O0 : Old Z Z.heap.size h0) (z0 : Exa Z h0 a1 s1) (z1 : Sv l Z h0 a1 ((own_cn x1) + (own_cn x2)) [((0 : Int32), x1), ((own_cn x1), x2)]) (z2 : Exa Z h0 a2 s1) (z3 : Sv l Z h0 a2 ((own_cn x3) + (own_cn x4)) [((0 : Int32), x3), ((own_cn x3), x4)]) (hc11 : x1 = x3) (hc26 : ¬ (x2 = x4)) (hc27 : ¬ (x2 < x4)) :
    CtrN l Z mn14 prog_10_method_4_code 6 (some .int) [] (⟨7, 0, 0, 104⟩ : Room) #[(.ref a1), (.ref a2)] h0 [] (fun v h => v = some (.int 1)) := by
  refine CtrN.intro (L0 := #[vr a1, vr a2, un, un, un, un]) (plainFor_of_name pn4) O0 (own_entry rfl) ?_
  intro p e s m below meth c T0 hy hml hret hlk hnm W0
  refine o_iconst W0 (v := 0) 1 (hb hy d7_0) rfl rfl <| o_istoreN W0 (L' := #[vr a1, vr a2, vi 0, un, un, un]) 2 (hb hy d7_1) rfl rfl <| o_iconst W0 (v := 0) 3 (hb hy d7_2) rfl rfl <| o_istoreN W0 (L' := #[vr a1, vr a2, vi 0, vi 0, un, un]) 4 (hb hy d7_3) rfl rfl <| o_iloadN W0 5 (hb hy d7_4) rfl rfl <| o_aloadN W0 6 (hb hy d7_5) rfl rfl rfl ?_
  refine o_virtualC W0 (w39 hw) (w40 hw) (o_nf W0 rfl (w42 hw)) (w42 hw) (w41 hw) (by decide) z0 (w43 hw) (w12 hw) (z1 _ W0.old (Keep.refl _ _)).1 1 0 0 (by decide) (by rw [hml]; rfl) (lenOf pd6 rfl) [iZ] rfl rfl 9 (hb hy d7_6) rfl rfl rfl all0 tri ?_
  intro v1 T1 h1 lo1 W1 K1 q1
  obtain rfl := q1.2.2
  show Gl _ _ _ _ _ _ _ _ [(.int ((own_cn x1) + (own_cn x2))), iZ]
  refine o_icmpN W1 12 (hb hy d7_9) (XT.ii_ge_f (show (0 : Int32) < ((own_cn x1) + (own_cn x2)) by obtain ⟨g0, e0, k0⟩ : ∃ g, own_cn x1 = g ∧ (g = 1 ∨ g = 2) := ⟨_, rfl, own_cn12 _⟩; obtain ⟨g1, e1, k1⟩ : ∃ g, own_cn x2 = g ∧ (g = 1 ∨ g = 2) := ⟨_, rfl, own_cn12 _⟩; rw [e0, e1]; rcases k0 with rfl | rfl <;> rcases k1 with rfl | rfl <;> decide)) rfl <| o_iloadN W1 13 (hb hy d7_12) rfl rfl <| o_aloadN W1 14 (hb hy d7_13) rfl rfl rfl ?_
  have c2 := (z2.keep K1)
  have c3 := (z3.keep K1)
  refine o_virtualC W1 (w39 hw) (w40 hw) (o_nf W1 rfl (w42 hw)) (w42 hw) (w41 hw) (by decide) c2 (w43 hw) (w12 hw) (c3 _ W1.old (Keep.refl _ _)).1 1 0 0 (by decide) (by rw [hml]; rfl) (lenOf pd6 rfl) [iZ] rfl rfl 17 (hb hy d7_14) rfl rfl rfl all0 tri ?_
  intro v4 T4 h4 lo4 W4 K4 q4
  obtain rfl := q4.2.2
  show Gl _ _ _ _ _ _ _ _ [(.int ((own_cn x3) + (own_cn x4))), iZ]
  refine o_icmpN W4 20 (hb hy d7_17) (XT.ii_ge_f (show (0 : Int32) < ((own_cn x3) + (own_cn x4)) by obtain ⟨g0, e0, k0⟩ : ∃ g, own_cn x3 = g ∧ (g = 1 ∨ g = 2) := ⟨_, rfl, own_cn12 _⟩; obtain ⟨g1, e1, k1⟩ : ∃ g, own_cn x4 = g ∧ (g = 1 ∨ g = 2) := ⟨_, rfl, own_cn12 _⟩; rw [e0, e1]; rcases k0 with rfl | rfl <;> rcases k1 with rfl | rfl <;> decide)) rfl <| o_aloadN W4 21 (hb hy d7_20) rfl rfl rfl <| o_iloadN W4 22 (hb hy d7_21) rfl rfl ?_
  have c5 := ((z1.keep K1).keep K4)
  have c6 := ((z0.keep K1).keep K4)
  refine o_virtualC W4 (w68 hw) (w69 hw) (o_nf W4 rfl (w71 hw)) (w71 hw) (w70 hw) (by decide) c6 (w72 hw) (w12 hw) (al_h (c5 _ W4.old (Keep.refl _ _)).2) 0 0 0 (by decide) (by rw [hml]; rfl) (lenOf pd8 rfl) [] rfl rfl 25 (hb hy d7_22) rfl rfl rfl all0 tri ?_
  intro v7 T7 h7 lo7 W7 K7 q7
  obtain rfl := q7.2.2
  show Gl _ _ _ _ _ _ _ _ [(.int x1)]
  refine o_istore W7 (L' := #[vr a1, vr a2, vi 0, vi 0, vi x1, un]) 27 (hb hy d7_25) rfl rfl <| o_aloadN W7 28 (hb hy d7_27) rfl rfl rfl <| o_iloadN W7 29 (hb hy d7_28) rfl rfl ?_
  have c8 := ((c3.keep K4).keep K7)
  have c9 := ((c2.keep K4).keep K7)
  refine o_virtualC W7 (w68 hw) (w69 hw) (o_nf W7 rfl (w71 hw)) (w71 hw) (w70 hw) (by decide) c9 (w72 hw) (w12 hw) (al_h (c8 _ W7.old (Keep.refl _ _)).2) 0 0 0 (by decide) (by rw [hml]; rfl) (lenOf pd8 rfl) [] rfl rfl 32 (hb hy d7_29) rfl rfl rfl all0 tri ?_
  intro v10 T10 h10 lo10 W10 K10 q10
  obtain rfl := q10.2.2
  show Gl _ _ _ _ _ _ _ _ [(.int x3)]
  refine o_istore W10 (L' := #[vr a1, vr a2, vi 0, vi 0, vi x1, vi x3]) 34 (hb hy d7_32) rfl rfl <| o_iload W10 36 (hb hy d7_34) rfl rfl <| o_iload W10 38 (hb hy d7_36) rfl rfl <| o_icmpY W10 49 (hb hy d7_38) (XT.ii_eq_t hc11) (by decide) rfl <| o_iloadN W10 50 (hb hy d7_49) rfl rfl <| o_iload W10 52 (hb hy d7_50) rfl rfl ?_
  refine o_staticC W10 (w113 hw) (w114 hw) (w115 hw) (w116 hw) (by decide) (rm3 l hw x1 h10 W10.old ) 1 0 0 (by decide) (by rw [hml]; rfl) (lenOf pd8 rfl) [iZ] rfl rfl 55 (hb hy d7_52) rfl rfl rfl all0 tri ?_
  intro v12 T12 h12 lo12 W12 K12 q12
  obtain rfl := q12.2.2
  show Gl _ _ _ _ _ _ _ _ [(.int (own_cn x1)), iZ]
  refine o_iadd W12 (v := (own_cn x1)) 56 (hb hy d7_55) (own_z0 _) rfl <| o_istoreN W12 (L' := #[vr a1, vr a2, vi (own_cn x1), vi 0, vi x1, vi x3]) 57 (hb hy d7_56) rfl rfl <| o_iloadN W12 58 (hb hy d7_57) rfl rfl <| o_iload W12 60 (hb hy d7_58) rfl rfl ?_
  refine o_staticC W12 (w113 hw) (w114 hw) (w115 hw) (w116 hw) (by decide) (rm3 l hw x3 h12 W12.old ) 1 0 0 (by decide) (by rw [hml]; rfl) (lenOf pd8 rfl) [iZ] rfl rfl 63 (hb hy d7_60) rfl rfl rfl all0 tri ?_
  intro v13 T13 h13 lo13 W13 K13 q13
  obtain rfl := q13.2.2
  show Gl _ _ _ _ _ _ _ _ [(.int (own_cn x3)), iZ]
  refine o_iadd W13 (v := (own_cn x3)) 64 (hb hy d7_63) (own_z0 _) rfl <| o_istoreN W13 (L' := #[vr a1, vr a2, vi (own_cn x1), vi (own_cn x3), vi x1, vi x3]) 65 (hb hy d7_64) rfl rfl <| o_goto W13 4 (hb hy d7_65) (by decide) rfl <| o_iloadN W13 5 (hb hy d7_4) rfl rfl <| o_aloadN W13 6 (hb hy d7_5) rfl rfl rfl ?_
  have c14 := ((((c5.keep K7).keep K10).keep K12).keep K13)
  have c15 := ((((c6.keep K7).keep K10).keep K12).keep K13)
  refine o_virtualC W13 (w39 hw) (w40 hw) (o_nf W13 rfl (w42 hw)) (w42 hw) (w41 hw) (by decide) c15 (w43 hw) (w12 hw) (c14 _ W13.old (Keep.refl _ _)).1 1 0 0 (by decide) (by rw [hml]; rfl) (lenOf pd6 rfl) [(.int (own_cn x1))] rfl rfl 9 (hb hy d7_6) rfl rfl rfl all0 tri ?_
  intro v16 T16 h16 lo16 W16 K16 q16
  obtain rfl := q16.2.2
  show Gl _ _ _ _ _ _ _ _ [(.int ((own_cn x1) + (own_cn x2))), (.int (own_cn x1))]
  refine o_icmpN W16 12 (hb hy d7_9) (XT.ii_ge_f (show (own_cn x1) < ((own_cn x1) + (own_cn x2)) by obtain ⟨g0, e0, k0⟩ : ∃ g, own_cn x1 = g ∧ (g = 1 ∨ g = 2) := ⟨_, rfl, own_cn12 _⟩; obtain ⟨g1, e1, k1⟩ : ∃ g, own_cn x2 = g ∧ (g = 1 ∨ g = 2) := ⟨_, rfl, own_cn12 _⟩; rw [e0, e1]; rcases k0 with rfl | rfl <;> rcases k1 with rfl | rfl <;> decide)) rfl <| o_iloadN W16 13 (hb hy d7_12) rfl rfl <| o_aloadN W16 14 (hb hy d7_13) rfl rfl rfl ?_
  have c17 := ((((c8.keep K10).keep K12).keep K13).keep K16)
  have c18 := ((((c9.keep K10).keep K12).keep K13).keep K16)
  refine o_virtualC W16 (w39 hw) (w40 hw) (o_nf W16 rfl (w42 hw)) (w42 hw) (w41 hw) (by decide) c18 (w43 hw) (w12 hw) (c17 _ W16.old (Keep.refl _ _)).1 1 0 0 (by decide) (by rw [hml]; rfl) (lenOf pd6 rfl) [(.int (own_cn x3))] rfl rfl 17 (hb hy d7_14) rfl rfl rfl all0 tri ?_
  intro v19 T19 h19 lo19 W19 K19 q19
  obtain rfl := q19.2.2
  show Gl _ _ _ _ _ _ _ _ [(.int ((own_cn x3) + (own_cn x4))), (.int (own_cn x3))]
  refine o_icmpN W19 20 (hb hy d7_17) (XT.ii_ge_f (show (own_cn x3) < ((own_cn x3) + (own_cn x4)) by obtain ⟨g0, e0, k0⟩ : ∃ g, own_cn x3 = g ∧ (g = 1 ∨ g = 2) := ⟨_, rfl, own_cn12 _⟩; obtain ⟨g1, e1, k1⟩ : ∃ g, own_cn x4 = g ∧ (g = 1 ∨ g = 2) := ⟨_, rfl, own_cn12 _⟩; rw [e0, e1]; rcases k0 with rfl | rfl <;> rcases k1 with rfl | rfl <;> decide)) rfl <| o_aloadN W19 21 (hb hy d7_20) rfl rfl rfl <| o_iloadN W19 22 (hb hy d7_21) rfl rfl ?_
  have c20 := ((c14.keep K16).keep K19)
  have c21 := ((c15.keep K16).keep K19)
  refine o_virtualC W19 (w68 hw) (w69 hw) (o_nf W19 rfl (w71 hw)) (w71 hw) (w70 hw) (by decide) c21 (w72 hw) (w12 hw) (al_h (al_t (c20 _ W19.old (Keep.refl _ _)).2)) 0 0 0 (by decide) (by rw [hml]; rfl) (lenOf pd8 rfl) [] rfl rfl 25 (hb hy d7_22) rfl rfl rfl all0 tri ?_
  intro v22 T22 h22 lo22 W22 K22 q22
  obtain rfl := q22.2.2
  show Gl _ _ _ _ _ _ _ _ [(.int x2)]
  refine o_istore W22 (L' := #[vr a1, vr a2, vi (own_cn x1), vi (own_cn x3), vi x2, vi x3]) 27 (hb hy d7_25) rfl rfl <| o_aloadN W22 28 (hb hy d7_27) rfl rfl rfl <| o_iloadN W22 29 (hb hy d7_28) rfl rfl ?_
  have c23 := ((c17.keep K19).keep K22)
  have c24 := ((c18.keep K19).keep K22)
  refine o_virtualC W22 (w68 hw) (w69 hw) (o_nf W22 rfl (w71 hw)) (w71 hw) (w70 hw) (by decide) c24 (w72 hw) (w12 hw) (al_h (al_t (c23 _ W22.old (Keep.refl _ _)).2)) 0 0 0 (by decide) (by rw [hml]; rfl) (lenOf pd8 rfl) [] rfl rfl 32 (hb hy d7_29) rfl rfl rfl all0 tri ?_
  intro v25 T25 h25 lo25 W25 K25 q25
  obtain rfl := q25.2.2
  show Gl _ _ _ _ _ _ _ _ [(.int x4)]
  refine o_istore W25 (L' := #[vr a1, vr a2, vi (own_cn x1), vi (own_cn x3), vi x2, vi x4]) 34 (hb hy d7_32) rfl rfl <| o_iload W25 36 (hb hy d7_34) rfl rfl <| o_iload W25 38 (hb hy d7_36) rfl rfl <| o_icmpN W25 41 (hb hy d7_38) (XT.ii_eq_f hc26) rfl <| o_iload W25 43 (hb hy d7_41) rfl rfl <| o_iload W25 45 (hb hy d7_43) rfl rfl ?_
  refine o_staticC W25 (w50 hw) (w51 hw) (w52 hw) (w53 hw) (by decide) (rm199 l hw x2 x4 h25 W25.old hc27 hc26) 0 0 0 (by decide) (by rw [hml]; rfl) (lenOf pd5 rfl) [] rfl rfl 48 (hb hy d7_45) rfl rfl rfl all0 tri ?_
  intro v28 T28 h28 lo28 W28 K28 q28
  obtain rfl := q28.2.2
  show Gl _ _ _ _ _ _ _ _ [(.int 1)]
  exact o_retI W28 hlk hret (hb hy d7_48) (by decide) (by decide) rfl
theorem rm217 (l : Launch) {Z a0} (hw : HW Z a0) (a1 a2 : Addr) (x1 x2 x3 x4 : Int32) (h0 : Heap) (O0 : Old Z Z.heap.size h0) (z0 : Exa Z h0 a1 s1) (z1 : Sv l Z h0 a1 ((own_cn x1) + (own_cn x2)) [((0 : Int32), x1), ((own_cn x1), x2)]) (z2 : Exa Z h0 a2 s1) (z3 : Sv l Z h0 a2 ((own_cn x3) + (own_cn x4)) [((0 : Int32), x3), ((own_cn x3), x4)]) (hc11 : x1 = x3) (hc26 : ¬ (x2 = x4)) (hc27 : x2 < x4) :
    CtrN l Z mn14 prog_10_method_4_code 6 (some .int) [] (⟨7, 0, 0, 104⟩ : Room) #[(.ref a1), (.ref a2)] h0 [] (fun v h => v = some (.int (-1 : Int32))) := by
  refine CtrN.intro (L0 := #[vr a1, vr a2, un, un, un, un]) (plainFor_of_name pn4) O0 (own_entry rfl) ?_
  intro p e s m below meth c T0 hy hml hret hlk hnm W0
  refine o_iconst W0 (v := 0) 1 (hb hy d7_0) rfl rfl <| o_istoreN W0 (L' := #[vr a1, vr a2, vi 0, un, un, un]) 2 (hb hy d7_1) rfl rfl <| o_iconst W0 (v := 0) 3 (hb hy d7_2) rfl rfl <| o_istoreN W0 (L' := #[vr a1, vr a2, vi 0, vi 0, un, un]) 4 (hb hy d7_3) rfl rfl <| o_iloadN W0 5 (hb hy d7_4) rfl rfl <| o_aloadN W0 6 (hb hy d7_5) rfl rfl rfl ?_
  refine o_virtualC W0 (w39 hw) (w40 hw) (o_nf W0 rfl (w42 hw)) (w42 hw) (w41 hw) (by decide) z0 (w43 hw) (w12 hw) (z1 _ W0.old (Keep.refl _ _)).1 1 0 0 (by decide) (by rw [hml]; rfl) (lenOf pd6 rfl) [iZ] rfl rfl 9 (hb hy d7_6) rfl rfl rfl all0 tri ?_
  intro v1 T1 h1 lo1 W1 K1 q1
  obtain rfl := q1.2.2
  show Gl _ _ _ _ _ _ _ _ [(.int ((own_cn x1) + (own_cn x2))), iZ]
  refine o_icmpN W1 12 (hb hy d7_9) (XT.ii_ge_f (show (0 : Int32) < ((own_cn x1) + (own_cn x2)) by obtain ⟨g0, e0, k0⟩ : ∃ g, own_cn x1 = g ∧ (g = 1 ∨ g = 2) := ⟨_, rfl, own_cn12 _⟩; obtain ⟨g1, e1, k1⟩ : ∃ g, own_cn x2 = g ∧ (g = 1 ∨ g = 2) := ⟨_, rfl, own_cn12 _⟩; rw [e0, e1]; rcases k0 with rfl | rfl <;> rcases k1 with rfl | rfl <;> decide)) rfl <| o_iloadN W1 13 (hb hy d7_12) rfl rfl <| o_aloadN W1 14 (hb hy d7_13) rfl rfl rfl ?_
  have c2 := (z2.keep K1)
  have c3 := (z3.keep K1)
  refine o_virtualC W1 (w39 hw) (w40 hw) (o_nf W1 rfl (w42 hw)) (w42 hw) (w41 hw) (by decide) c2 (w43 hw) (w12 hw) (c3 _ W1.old (Keep.refl _ _)).1 1 0 0 (by decide) (by rw [hml]; rfl) (lenOf pd6 rfl) [iZ] rfl rfl 17 (hb hy d7_14) rfl rfl rfl all0 tri ?_
  intro v4 T4 h4 lo4 W4 K4 q4
  obtain rfl := q4.2.2
  show Gl _ _ _ _ _ _ _ _ [(.int ((own_cn x3) + (own_cn x4))), iZ]
  refine o_icmpN W4 20 (hb hy d7_17) (XT.ii_ge_f (show (0 : Int32) < ((own_cn x3) + (own_cn x4)) by obtain ⟨g0, e0, k0⟩ : ∃ g, own_cn x3 = g ∧ (g = 1 ∨ g = 2) := ⟨_, rfl, own_cn12 _⟩; obtain ⟨g1, e1, k1⟩ : ∃ g, own_cn x4 = g ∧ (g = 1 ∨ g = 2) := ⟨_, rfl, own_cn12 _⟩; rw [e0, e1]; rcases k0 with rfl | rfl <;> rcases k1 with rfl | rfl <;> decide)) rfl <| o_aloadN W4 21 (hb hy d7_20) rfl rfl rfl <| o_iloadN W4 22 (hb hy d7_21) rfl rfl ?_
  have c5 := ((z1.keep K1).keep K4)
  have c6 := ((z0.keep K1).keep K4)
  refine o_virtualC W4 (w68 hw) (w69 hw) (o_nf W4 rfl (w71 hw)) (w71 hw) (w70 hw) (by decide) c6 (w72 hw) (w12 hw) (al_h (c5 _ W4.old (Keep.refl _ _)).2) 0 0 0 (by decide) (by rw [hml]; rfl) (lenOf pd8 rfl) [] rfl rfl 25 (hb hy d7_22) rfl rfl rfl all0 tri ?_
  intro v7 T7 h7 lo7 W7 K7 q7
  obtain rfl := q7.2.2
  show Gl _ _ _ _ _ _ _ _ [(.int x1)]
  refine o_istore W7 (L' := #[vr a1, vr a2, vi 0, vi 0, vi x1, un]) 27 (hb hy d7_25) rfl rfl <| o_aloadN W7 28 (hb hy d7_27) rfl rfl rfl <| o_iloadN W7 29 (hb hy d7_28) rfl rfl ?_
  have c8 := ((c3.keep K4).keep K7)
  have c9 := ((c2.keep K4).keep K7)
  refine o_virtualC W7 (w68 hw) (w69 hw) (o_nf W7 rfl (w71 hw)) (w71 hw) (w70 hw) (by decide) c9 (w72 hw) (w12 hw) (al_h (c8 _ W7.old (Keep.refl _ _)).2) 0 0 0 (by decide) (by rw [hml]; rfl) (lenOf pd8 rfl) [] rfl rfl 32 (hb hy d7_29) rfl rfl rfl all0 tri ?_
  intro v10 T10 h10 lo10 W10 K10 q10
  obtain rfl := q10.2.2
  show Gl _ _ _ _ _ _ _ _ [(.int x3)]
  refine o_istore W10 (L' := #[vr a1, vr a2, vi 0, vi 0, vi x1, vi x3]) 34 (hb hy d7_32) rfl rfl <| o_iload W10 36 (hb hy d7_34) rfl rfl <| o_iload W10 38 (hb hy d7_36) rfl rfl <| o_icmpY W10 49 (hb hy d7_38) (XT.ii_eq_t hc11) (by decide) rfl <| o_iloadN W10 50 (hb hy d7_49) rfl rfl <| o_iload W10 52 (hb hy d7_50) rfl rfl ?_
  refine o_staticC W10 (w113 hw) (w114 hw) (w115 hw) (w116 hw) (by decide) (rm3 l hw x1 h10 W10.old ) 1 0 0 (by decide) (by rw [hml]; rfl) (lenOf pd8 rfl) [iZ] rfl rfl 55 (hb hy d7_52) rfl rfl rfl all0 tri ?_
  intro v12 T12 h12 lo12 W12 K12 q12
  obtain rfl := q12.2.2
  show Gl _ _ _ _ _ _ _ _ [(.int (own_cn x1)), iZ]
  refine o_iadd W12 (v := (own_cn x1)) 56 (hb hy d7_55) (own_z0 _) rfl <| o_istoreN W12 (L' := #[vr a1, vr a2, vi (own_cn x1), vi 0, vi x1, vi x3]) 57 (hb hy d7_56) rfl rfl <| o_iloadN W12 58 (hb hy d7_57) rfl rfl <| o_iload W12 60 (hb hy d7_58) rfl rfl ?_
  refine o_staticC W12 (w113 hw) (w114 hw) (w115 hw) (w116 hw) (by decide) (rm3 l hw x3 h12 W12.old ) 1 0 0 (by decide) (by rw [hml]; rfl) (lenOf pd8 rfl) [iZ] rfl rfl 63 (hb hy d7_60) rfl rfl rfl all0 tri ?_
  intro v13 T13 h13 lo13 W13 K13 q13
  obtain rfl := q13.2.2
  show Gl _ _ _ _ _ _ _ _ [(.int (own_cn x3)), iZ]
  refine o_iadd W13 (v := (own_cn x3)) 64 (hb hy d7_63) (own_z0 _) rfl <| o_istoreN W13 (L' := #[vr a1, vr a2, vi (own_cn x1), vi (own_cn x3), vi x1, vi x3]) 65 (hb hy d7_64) rfl rfl <| o_goto W13 4 (hb hy d7_65) (by decide) rfl <| o_iloadN W13 5 (hb hy d7_4) rfl rfl <| o_aloadN W13 6 (hb hy d7_5) rfl rfl rfl ?_
  have c14 := ((((c5.keep K7).keep K10).keep K12).keep K13)
  have c15 := ((((c6.keep K7).keep K10).keep K12).keep K13)
  refine o_virtualC W13 (w39 hw) (w40 hw) (o_nf W13 rfl (w42 hw)) (w42 hw) (w41 hw) (by decide) c15 (w43 hw) (w12 hw) (c14 _ W13.old (Keep.refl _ _)).1 1 0 0 (by decide) (by rw [hml]; rfl) (lenOf pd6 rfl) [(.int (own_cn x1))] rfl rfl 9 (hb hy d7_6) rfl rfl rfl all0 tri ?_
  intro v16 T16 h16 lo16 W16 K16 q16
  obtain rfl := q16.2.2
  show Gl _ _ _ _ _ _ _ _ [(.int ((own_cn x1) + (own_cn x2))), (.int (own_cn x1))]
  refine o_icmpN W16 12 (hb hy d7_9) (XT.ii_ge_f (show (own_cn x1) < ((own_cn x1) + (own_cn x2)) by obtain ⟨g0, e0, k0⟩ : ∃ g, own_cn x1 = g ∧ (g = 1 ∨ g = 2) := ⟨_, rfl, own_cn12 _⟩; obtain ⟨g1, e1, k1⟩ : ∃ g, own_cn x2 = g ∧ (g = 1 ∨ g = 2) := ⟨_, rfl, own_cn12 _⟩; rw [e0, e1]; rcases k0 with rfl | rfl <;> rcases k1 with rfl | rfl <;> decide)) rfl <| o_iloadN W16 13 (hb hy d7_12) rfl rfl <| o_aloadN W16 14 (hb hy d7_13) rfl rfl rfl ?_
  have c17 := ((((c8.keep K10).keep K12).keep K13).keep K16)
  have c18 := ((((c9.keep K10).keep K12).keep K13).keep K16)
  refine o_virtualC W16 (w39 hw) (w40 hw) (o_nf W16 rfl (w42 hw)) (w42 hw) (w41 hw) (by decide) c18 (w43 hw) (w12 hw) (c17 _ W16.old (Keep.refl _ _)).1 1 0 0 (by decide) (by rw [hml]; rfl) (lenOf pd6 rfl) [(.int (own_cn x3))] rfl rfl 17 (hb hy d7_14) rfl rfl rfl all0 tri ?_
  intro v19 T19 h19 lo19 W19 K19 q19
  obtain rfl := q19.2.2
  show Gl _ _ _ _ _ _ _ _ [(.int ((own_cn x3) + (own_cn x4))), (.int (own_cn x3))]
  refine o_icmpN W19 20 (hb hy d7_17) (XT.ii_ge_f (show (own_cn x3) < ((own_cn x3) + (own_cn x4)) by obtain ⟨g0, e0, k0⟩ : ∃ g, own_cn x3 = g ∧ (g = 1 ∨ g = 2) := ⟨_, rfl, own_cn12 _⟩; obtain ⟨g1, e1, k1⟩ : ∃ g, own_cn x4 = g ∧ (g = 1 ∨ g = 2) := ⟨_, rfl, own_cn12 _⟩; rw [e0, e1]; rcases k0 with rfl | rfl <;> rcases k1 with rfl | rfl <;> decide)) rfl <| o_aloadN W19 21 (hb hy d7_20) rfl rfl rfl <| o_iloadN W19 22 (hb hy d7_21) rfl rfl ?_
  have c20 := ((c14.keep K16).keep K19)
  have c21 := ((c15.keep K16).keep K19)
  refine o_virtualC W19 (w68 hw) (w69 hw) (o_nf W19 rfl (w71 hw)) (w71 hw) (w70 hw) (by decide) c21 (w72 hw) (w12 hw) (al_h (al_t (c20 _ W19.old (Keep.refl _ _)).2)) 0 0 0 (by decide) (by rw [hml]; rfl) (lenOf pd8 rfl) [] rfl rfl 25 (hb hy d7_22) rfl rfl rfl all0 tri ?_
  intro v22 T22 h22 lo22 W22 K22 q22
  obtain rfl := q22.2.2
  show Gl _ _ _ _ _ _ _ _ [(.int x2)]
  refine o_istore W22 (L' := #[vr a1, vr a2, vi (own_cn x1), vi (own_cn x3), vi x2, vi x3]) 27 (hb hy d7_25) rfl rfl <| o_aloadN W22 28 (hb hy d7_27) rfl rfl rfl <| o_iloadN W22 29 (hb hy d7_28) rfl rfl ?_
  have c23 := ((c17.keep K19).keep K22)
  have c24 := ((c18.keep K19).keep K22)
  refine o_virtualC W22 (w68 hw) (w69 hw) (o_nf W22 rfl (w71 hw)) (w71 hw) (w70 hw) (by decide) c24 (w72 hw) (w12 hw) (al_h (al_t (c23 _ W22.old (Keep.refl _ _)).2)) 0 0 0 (by decide) (by rw [hml]; rfl) (lenOf pd8 rfl) [] rfl rfl 32 (hb hy d7_29) rfl rfl rfl all0 tri ?_
  intro v25 T25 h25 lo25 W25 K25 q25
  obtain rfl := q25.2.2
  show Gl _ _ _ _ _ _ _ _ [(.int x4)]
  refine o_istore W25 (L' := #[vr a1, vr a2, vi (own_cn x1), vi (own_cn x3), vi x2, vi x4]) 34 (hb hy d7_32) rfl rfl <| o_iload W25 36 (hb hy d7_34) rfl rfl <| o_iload W25 38 (hb hy d7_36) rfl rfl <| o_icmpN W25 41 (hb hy d7_38) (XT.ii_eq_f hc26) rfl <| o_iload W25 43 (hb hy d7_41) rfl rfl <| o_iload W25 45 (hb hy d7_43) rfl rfl ?_
  refine o_staticC W25 (w50 hw) (w51 hw) (w52 hw) (w53 hw) (by decide) (rm202 l hw x2 x4 h25 W25.old hc27) 0 0 0 (by decide) (by rw [hml]; rfl) (lenOf pd5 rfl) [] rfl rfl 48 (hb hy d7_45) rfl rfl rfl all0 tri ?_
  intro v28 T28 h28 lo28 W28 K28 q28
  obtain rfl := q28.2.2
  show Gl _ _ _ _ _ _ _ _ [(.int (-1 : Int32))]
  exact o_retI W28 hlk hret (hb hy d7_48) (by decide) (by decide) rfl
theorem rm218 (l : Launch) {Z a0} (hw : HW Z a0) (a1 a2 : Addr) (x1 x2 x3 x4 : Int32) (h0 : Heap) (O0 : Old Z Z.heap.size h0) (z0 : Exa Z h0 a1 s1) (z1 : Sv l Z h0 a1 ((own_cn x1) + (own_cn x2)) [((0 : Int32), x1), ((own_cn x1), x2)]) (z2 : Exa Z h0 a2 s1) (z3 : Sv l Z h0 a2 ((own_cn x3) + (own_cn x4)) [((0 : Int32), x3), ((own_cn x3), x4)]) (hc11 : ¬ (x1 = x3)) (hc12 : ¬ (x1 < x3)) :
    CtrN l Z mn14 prog_10_method_4_code 6 (some .int) [] (⟨7, 0, 0, 104⟩ : Room) #[(.ref a1), (.ref a2)] h0 [] (fun v h => v = some (.int 1)) := by
  refine CtrN.intro (L0 := #[vr a1, vr a2, un, un, un, un]) (plainFor_of_name pn4) O0 (own_entry rfl) ?_
  intro p e s m below meth c T0 hy hml hret hlk hnm W0
  refine o_iconst W0 (v := 0) 1 (hb hy d7_0) rfl rfl <| o_istoreN W0 (L' := #[vr a1, vr a2, vi 0, un, un, un]) 2 (hb hy d7_1) rfl rfl <| o_iconst W0 (v := 0) 3 (hb hy d7_2) rfl rfl <| o_istoreN W0 (L' := #[vr a1, vr a2, vi 0, vi 0, un, un]) 4 (hb hy d7_3) rfl rfl <| o_iloadN W0 5 (hb hy d7_4) rfl rfl <| o_aloadN W0 6 (hb hy d7_5) rfl rfl rfl ?_
  refine o_virtualC W0 (w39 hw) (w40 hw) (o_nf W0 rfl (w42 hw)) (w42 hw) (w41 hw) (by decide) z0 (w43 hw) (w12 hw) (z1 _ W0.old (Keep.refl _ _)).1 1 0 0 (by decide) (by rw [hml]; rfl) (lenOf pd6 rfl) [iZ] rfl rfl 9 (hb hy d7_6) rfl rfl rfl all0 tri ?_
  intro v1 T1 h1 lo1 W1 K1 q1
  obtain rfl := q1.2.2
  show Gl _ _ _ _ _ _ _ _ [(.int ((own_cn x1) + (own_cn x2))), iZ]
  refine o_icmpN W1 12 (hb hy d7_9) (XT.ii_ge_f (show (0 : Int32) < ((own_cn x1) + (own_cn x2)) by obtain ⟨g0, e0, k0⟩ : ∃ g, own_cn x1 = g ∧ (g = 1 ∨ g = 2) := ⟨_, rfl, own_cn12 _⟩; obtain ⟨g1, e1, k1⟩ : ∃ g, own_cn x2 = g ∧ (g = 1 ∨ g = 2) := ⟨_, rfl, own_cn12 _⟩; rw [e0, e1]; rcases k0 with rfl | rfl <;> rcases k1 with rfl | rfl <;> decide)) rfl <| o_iloadN W1 13 (hb hy d7_12) rfl rfl <| o_aloadN W1 14 (hb hy d7_13) rfl rfl rfl ?_
  have c2 := (z2.keep K1)
  have c3 := (z3.keep K1)
  refine o_virtualC W1 (w39 hw) (w40 hw) (o_nf W1 rfl (w42 hw)) (w42 hw) (w41 hw) (by decide) c2 (w43 hw) (w12 hw) (c3 _ W1.old (Keep.refl _ _)).1 1 0 0 (by decide) (by rw [hml]; rfl) (lenOf pd6 rfl) [iZ] rfl rfl 17 (hb hy d7_14) rfl rfl rfl all0 tri ?_
  intro v4 T4 h4 lo4 W4 K4 q4
  obtain rfl := q4.2.2
  show Gl _ _ _ _ _ _ _ _ [(.int ((own_cn x3) + (own_cn x4))), iZ]
  refine o_icmpN W4 20 (hb hy d7_17) (XT.ii_ge_f (show (0 : Int32) < ((own_cn x3) + (own_cn x4)) by obtain ⟨g0, e0, k0⟩ : ∃ g, own_cn x3 = g ∧ (g = 1 ∨ g = 2) := ⟨_, rfl, own_cn12 _⟩; obtain ⟨g1, e1, k1⟩ : ∃ g, own_cn x4 = g ∧ (g = 1 ∨ g = 2) := ⟨_, rfl, own_cn12 _⟩; rw [e0, e1]; rcases k0 with rfl | rfl <;> rcases k1 with rfl | rfl <;> decide)) rfl <| o_aloadN W4 21 (hb hy d7_20) rfl rfl rfl <| o_iloadN W4 22 (hb hy d7_21) rfl rfl ?_
  have c5 := ((z1.keep K1).keep K4)
  have c6 := ((z0.keep K1).keep K4)
  refine o_virtualC W4 (w68 hw) (w69 hw) (o_nf W4 rfl (w71 hw)) (w71 hw) (w70 hw) (by decide) c6 (w72 hw) (w12 hw) (al_h (c5 _ W4.old (Keep.refl _ _)).2) 0 0 0 (by decide) (by rw [hml]; rfl) (lenOf pd8 rfl) [] rfl rfl 25 (hb hy d7_22) rfl rfl rfl all0 tri ?_
  intro v7 T7 h7 lo7 W7 K7 q7
  obtain rfl := q7.2.2
  show Gl _ _ _ _ _ _ _ _ [(.int x1)]
  refine o_istore W7 (L' := #[vr a1, vr a2, vi 0, vi 0, vi x1, un]) 27 (hb hy d7_25) rfl rfl <| o_aloadN W7 28 (hb hy d7_27) rfl rfl rfl <| o_iloadN W7 29 (hb hy d7_28) rfl rfl ?_
  have c8 := ((c3.keep K4).keep K7)
  have c9 := ((c2.keep K4).keep K7)
  refine o_virtualC W7 (w68 hw) (w69 hw) (o_nf W7 rfl (w71 hw)) (w71 hw) (w70 hw) (by decide) c9 (w72 hw) (w12 hw) (al_h (c8 _ W7.old (Keep.refl _ _)).2) 0 0 0 (by decide) (by rw [hml]; rfl) (lenOf pd8 rfl) [] rfl rfl 32 (hb hy d7_29) rfl rfl rfl all0 tri ?_
  intro v10 T10 h10 lo10 W10 K10 q10
  obtain rfl := q10.2.2
  show Gl _ _ _ _ _ _ _ _ [(.int x3)]
  refine o_istore W10 (L' := #[vr a1, vr a2, vi 0, vi 0, vi x1, vi x3]) 34 (hb hy d7_32) rfl rfl <| o_iload W10 36 (hb hy d7_34) rfl rfl <| o_iload W10 38 (hb hy d7_36) rfl rfl <| o_icmpN W10 41 (hb hy d7_38) (XT.ii_eq_f hc11) rfl <| o_iload W10 43 (hb hy d7_41) rfl rfl <| o_iload W10 45 (hb hy d7_43) rfl rfl ?_
  refine o_staticC W10 (w50 hw) (w51 hw) (w52 hw) (w53 hw) (by decide) (rm199 l hw x1 x3 h10 W10.old hc12 hc11) 0 0 0 (by decide) (by rw [hml]; rfl) (lenOf pd5 rfl) [] rfl rfl 48 (hb hy d7_45) rfl rfl rfl all0 tri ?_
  intro v13 T13 h13 lo13 W13 K13 q13
  obtain rfl := q13.2.2
  show Gl _ _ _ _ _ _ _ _ [(.int 1)]
  exact o_retI W13 hlk hret (hb hy d7_48) (by decide) (by decide) rfl
theorem rm219 (l : Launch) {Z a0} (hw : HW Z a0) (a1 a2 : Addr) (x1 x2 x3 x4 : Int32) (h0 : Heap) (O0 : Old Z Z.heap.size h0) (z0 : Exa Z h0 a1 s1) (z1 : Sv l Z h0 a1 ((own_cn x1) + (own_cn x2)) [((0 : Int32), x1), ((own_cn x1), x2)]) (z2 : Exa Z h0 a2 s1) (z3 : Sv l Z h0 a2 ((own_cn x3) + (own_cn x4)) [((0 : Int32), x3), ((own_cn x3), x4)]) (hc11 : ¬ (x1 = x3)) (hc12 : x1 < x3) :
    CtrN l Z mn14 prog_10_method_4_code 6 (some .int) [] (⟨7, 0, 0, 104⟩ : Room) #[(.ref a1), (.ref a2)] h0 [] (fun v h => v = some (.int (-1 : Int32))) := by
  refine CtrN.intro (L0 := #[vr a1, vr a2, un, un, un, un]) (plainFor_of_name pn4) O0 (own_entry rfl) ?_
  intro p e s m below meth c T0 hy hml hret hlk hnm W0
  refine o_iconst W0 (v := 0) 1 (hb hy d7_0) rfl rfl <| o_istoreN W0 (L' := #[vr a1, vr a2, vi 0, un, un, un]) 2 (hb hy d7_1) rfl rfl <| o_iconst W0 (v := 0) 3 (hb hy d7_2) rfl rfl <| o_istoreN W0 (L' := #[vr a1, vr a2, vi 0, vi 0, un, un]) 4 (hb hy d7_3) rfl rfl <| o_iloadN W0 5 (hb hy d7_4) rfl rfl <| o_aloadN W0 6 (hb hy d7_5) rfl rfl rfl ?_
  refine o_virtualC W0 (w39 hw) (w40 hw) (o_nf W0 rfl (w42 hw)) (w42 hw) (w41 hw) (by decide) z0 (w43 hw) (w12 hw) (z1 _ W0.old (Keep.refl _ _)).1 1 0 0 (by decide) (by rw [hml]; rfl) (lenOf pd6 rfl) [iZ] rfl rfl 9 (hb hy d7_6) rfl rfl rfl all0 tri ?_
  intro v1 T1 h1 lo1 W1 K1 q1
  obtain rfl := q1.2.2
  show Gl _ _ _ _ _ _ _ _ [(.int ((own_cn x1) + (own_cn x2))), iZ]
  refine o_icmpN W1 12 (hb hy d7_9) (XT.ii_ge_f (show (0 : Int32) < ((own_cn x1) + (own_cn x2)) by obtain ⟨g0, e0, k0⟩ : ∃ g, own_cn x1 = g ∧ (g = 1 ∨ g = 2) := ⟨_, rfl, own_cn12 _⟩; obtain ⟨g1, e1, k1⟩ : ∃ g, own_cn x2 = g ∧ (g = 1 ∨ g = 2) := ⟨_, rfl, own_cn12 _⟩; rw [e0, e1]; rcases k0 with rfl | rfl <;> rcases k1 with rfl | rfl <;> decide)) rfl <| o_iloadN W1 13 (hb hy d7_12) rfl rfl <| o_aloadN W1 14 (hb hy d7_13) rfl rfl rfl ?_
  have c2 := (z2.keep K1)
  have c3 := (z3.keep K1)
  refine o_virtualC W1 (w39 hw) (w40 hw) (o_nf W1 rfl (w42 hw)) (w42 hw) (w41 hw) (by decide) c2 (w43 hw) (w12 hw) (c3 _ W1.old (Keep.refl _ _)).1 1 0 0 (by decide) (by rw [hml]; rfl) (lenOf pd6 rfl) [iZ] rfl rfl 17 (hb hy d7_14) rfl rfl rfl all0 tri ?_
  intro v4 T4 h4 lo4 W4 K4 q4
  obtain rfl := q4.2.2
  show Gl _ _ _ _ _ _ _ _ [(.int ((own_cn x3) + (own_cn x4))), iZ]
  refine o_icmpN W4 20 (hb hy d7_17) (XT.ii_ge_f (show (0 : Int32) < ((own_cn x3) + (own_cn x4)) by obtain ⟨g0, e0, k0⟩ : ∃ g, own_cn x3 = g ∧ (g = 1 ∨ g = 2) := ⟨_, rfl, own_cn12 _⟩; obtain ⟨g1, e1, k1⟩ : ∃ g, own_cn x4 = g ∧ (g = 1 ∨ g = 2) := ⟨_, rfl, own_cn12 _⟩; rw [e0, e1]; rcases k0 with rfl | rfl <;> rcases k1 with rfl | rfl <;> decide)) rfl <| o_aloadN W4 21 (hb hy d7_20) rfl rfl rfl <| o_iloadN W4 22 (hb hy d7_21) rfl rfl ?_
  have c5 := ((z1.keep K1).keep K4)
  have c6 := ((z0.keep K1).keep K4)
  refine o_virtualC W4 (w68 hw) (w69 hw) (o_nf W4 rfl (w71 hw)) (w71 hw) (w70 hw) (by decide) c6 (w72 hw) (w12 hw) (al_h (c5 _ W4.old (Keep.refl _ _)).2) 0 0 0 (by decide) (by rw [hml]; rfl) (lenOf pd8 rfl) [] rfl rfl 25 (hb hy d7_22) rfl rfl rfl all0 tri ?_
  intro v7 T7 h7 lo7 W7 K7 q7
  obtain rfl := q7.2.2
  show Gl _ _ _ _ _ _ _ _ [(.int x1)]
  refine o_istore W7 (L' := #[vr a1, vr a2, vi 0, vi 0, vi x1, un]) 27 (hb hy d7_25) rfl rfl <| o_aloadN W7 28 (hb hy d7_27) rfl rfl rfl <| o_iloadN W7 29 (hb hy d7_28) rfl rfl ?_
  have c8 := ((c3.keep K4).keep K7)
  have c9 := ((c2.keep K4).keep K7)
  refine o_virtualC W7 (w68 hw) (w69 hw) (o_nf W7 rfl (w71 hw)) (w71 hw) (w70 hw) (by decide) c9 (w72 hw) (w12 hw) (al_h (c8 _ W7.old (Keep.refl _ _)).2) 0 0 0 (by decide) (by rw [hml]; rfl) (lenOf pd8 rfl) [] rfl rfl 32 (hb hy d7_29) rfl rfl rfl all0 tri ?_
  intro v10 T10 h10 lo10 W10 K10 q10
  obtain rfl := q10.2.2
  show Gl _ _ _ _ _ _ _ _ [(.int x3)]
  refine o_istore W10 (L' := #[vr a1, vr a2, vi 0, vi 0, vi x1, vi x3]) 34 (hb hy d7_32) rfl rfl <| o_iload W10 36 (hb hy d7_34) rfl rfl <| o_iload W10 38 (hb hy d7_36) rfl rfl <| o_icmpN W10 41 (hb hy d7_38) (XT.ii_eq_f hc11) rfl <| o_iload W10 43 (hb hy d7_41) rfl rfl <| o_iload W10 45 (hb hy d7_43) rfl rfl ?_
  refine o_staticC W10 (w50 hw) (w51 hw) (w52 hw) (w53 hw) (by decide) (rm202 l hw x1 x3 h10 W10.old hc12) 0 0 0 (by decide) (by rw [hml]; rfl) (lenOf pd5 rfl) [] rfl rfl 48 (hb hy d7_45) rfl rfl rfl all0 tri ?_
  intro v13 T13 h13 lo13 W13 K13 q13
  obtain rfl := q13.2.2
  show Gl _ _ _ _ _ _ _ _ [(.int (-1 : Int32))]
  exact o_retI W13 hlk hret (hb hy d7_48) (by decide) (by decide) rfl
theorem rm_law (l : Launch) {Z a0} (hw : HW Z a0) (gCS : Int32) (gF : Value) (p0 p1 p2 p3 p4 : Int32) (h0 : Heap) (O0 : Old Z Z.heap.size h0) (SgCS : Sta Z Z.heap s1 s5 "Z" (.int gCS)) (NgCS : ¬ (gCS = (0 : Int32))) (SgF : Sta Z Z.heap s6 s7 s8 gF) (NgF : gF.isRef = true) (z0 : Sta Z Z.heap s0 s2 "Z" (.int 1)) (z1 : Sta Z Z.heap s0 s3 "I" iZ) (z2 : Sta Z Z.heap s0 s4 "I" (.int 8)) :
    CtrW l Z consts_1 x code maxLocals ret tables_1 room_1 #[(.int p0), (.int p1), (.int p2), (.int p3), (.int p4)] h0 [] (fun v _ => v = some (.int 1)) := by
  refine CtrW.intro (L0 := #[vi p0, vi p1, vi p2, vi p3, vi p4, un, un, un, un, un, un, un, un, un, un, un]) (plainFor_of_name pn0) O0 (own_entry rfl) ?_
  intro p e s m below meth c T0 V0 hy hml hret hlk hnm W0
  refine o_iload W0 2 (hb hy at_0) rfl rfl <| o_iconst W0 (v := 3) 3 (hb hy at_2) rfl rfl <| o_iand W0 (v := (p4 &&& 3)) 4 (hb hy at_3) rfl rfl <| o_iconst W0 (v := 3) 5 (hb hy at_4) rfl rfl ?_
  refine o_irem W0 (v := ((p4 &&& 3) % (3 : Int32))) 6 (hb hy at_5) (by decide) rfl rfl ?_
  refine o_istore W0 (L' := #[vi p0, vi p1, vi p2, vi p3, vi p4, vi ((p4 &&& 3) % (3 : Int32)), un, un, un, un, un, un, un, un, un, un]) 8 (hb hy at_6) rfl rfl <| o_iload W0 10 (hb hy at_8) rfl rfl <| o_iconst W0 (v := 2) 11 (hb hy at_10) rfl rfl <| o_iushr W0 (v := ((p4.toUInt32 >>> ((2 : Int32) &&& 31).toUInt32).toInt32)) 12 (hb hy at_11) rfl rfl <| o_iconst W0 (v := 3) 13 (hb hy at_12) rfl rfl <| o_iand W0 (v := (((p4.toUInt32 >>> ((2 : Int32) &&& 31).toUInt32).toInt32) &&& 3)) 14 (hb hy at_13) rfl rfl ?_
  refine o_iconst W0 (v := 3) 15 (hb hy at_14) rfl rfl ?_
  refine o_irem W0 (v := ((((p4.toUInt32 >>> ((2 : Int32) &&& 31).toUInt32).toInt32) &&& 3) % (3 : Int32))) 16 (hb hy at_15) (by decide) rfl rfl ?_
  refine o_istore W0 (L' := #[vi p0, vi p1, vi p2, vi p3, vi p4, vi ((p4 &&& 3) % (3 : Int32)), .val (.int ((((p4.toUInt32 >>> ((2 : Int32) &&& 31).toUInt32).toInt32) &&& 3) % (3 : Int32))), un, un, un, un, un, un, un, un, un]) 18 (hb hy at_16) rfl rfl <| o_iload W0 20 (hb hy at_18) rfl rfl <| o_bipush W0 (v := 16) 22 (hb hy at_20) (by decide) rfl <| o_iand W0 (v := (p4 &&& 16)) 23 (hb hy at_22) rfl rfl ?_
  refine o_merge (α := Int32) (fun v => (True ∨ v = 0)) 31 (fun v => #[.val (.int p0), .val (.int p1), .val (.int p2), .val (.int p3), .val (.int p4), .val (.int ((p4 &&& 3) % (3 : Int32))), .val (.int ((((p4.toUInt32 >>> ((2 : Int32) &&& 31).toUInt32).toInt32) &&& 3) % (3 : Int32))), .unset, .unset, .unset, .unset, .unset, .unset, .unset, .unset, .unset]) (fun v => [(.int v)]) (fun M1 => ?_) (fun v hm2 => ?_)
  · by_cases hf3 : (p4 &&& 16) = (0 : Int32)
    · refine o_ifY W0 30 (hb hy at_23) (XT.i0_eq_t hf3) (by decide) rfl <| o_iloadN W0 31 (hb hy at_30) rfl rfl ?_
      exact M1 p2 (Or.inl trivial)
    · refine o_ifN W0 26 (hb hy at_23) (XT.i0_eq_f hf3) rfl <| o_iloadN W0 27 (hb hy at_26) rfl rfl <| o_goto W0 31 (hb hy at_27) (by decide) rfl ?_
      exact M1 p0 (Or.inl trivial)
  obtain ⟨za, hqhm2⟩ : ∃ z, z = v := ⟨_, rfl⟩
  subst hqhm2
  have hm2 : (True ∨ za = 0) := hm2
  show Gl _ _ _ _ _ _ _ #[.val (.int p0), .val (.int p1), .val (.int p2), .val (.int p3), .val (.int p4), .val (.int ((p4 &&& 3) % (3 : Int32))), .val (.int ((((p4.toUInt32 >>> ((2 : Int32) &&& 31).toUInt32).toInt32) &&& 3) % (3 : Int32))), .unset, .unset, .unset, .unset, .unset, .unset, .unset, .unset, .unset] [(.int za)]
  refine o_istore W0 (L' := #[vi p0, vi p1, vi p2, vi p3, vi p4, vi ((p4 &&& 3) % (3 : Int32)), .val (.int ((((p4.toUInt32 >>> ((2 : Int32) &&& 31).toUInt32).toInt32) &&& 3) % (3 : Int32))), vi za, un, un, un, un, un, un, un, un]) 33 (hb hy at_31) rfl rfl <| o_iload W0 35 (hb hy at_33) rfl rfl <| o_bipush W0 (v := 32) 37 (hb hy at_35) (by decide) rfl <| o_iand W0 (v := (p4 &&& 32)) 38 (hb hy at_37) rfl rfl ?_
  refine o_merge (α := Int32) (fun v => (True ∨ v = 0)) 46 (fun v => #[.val (.int p0), .val (.int p1), .val (.int p2), .val (.int p3), .val (.int p4), .val (.int ((p4 &&& 3) % (3 : Int32))), .val (.int ((((p4.toUInt32 >>> ((2 : Int32) &&& 31).toUInt32).toInt32) &&& 3) % (3 : Int32))), .val (.int za), .unset, .unset, .unset, .unset, .unset, .unset, .unset, .unset]) (fun v => [(.int v)]) (fun M4 => ?_) (fun v hm5 => ?_)
  · by_cases hf6 : (p4 &&& 32) = (0 : Int32)
    · refine o_ifY W0 45 (hb hy at_38) (XT.i0_eq_t hf6) (by decide) rfl <| o_iloadN W0 46 (hb hy at_45) rfl rfl ?_
      exact M4 p3 (Or.inl trivial)
    · refine o_ifN W0 41 (hb hy at_38) (XT.i0_eq_f hf6) rfl <| o_iloadN W0 42 (hb hy at_41) rfl rfl <| o_goto W0 46 (hb hy at_42) (by decide) rfl ?_
      exact M4 p1 (Or.inl trivial)
  obtain ⟨zb, hqhm5⟩ : ∃ z, z = v := ⟨_, rfl⟩
  subst hqhm5
  have hm5 : (True ∨ zb = 0) := hm5
  show Gl _ _ _ _ _ _ _ #[.val (.int p0), .val (.int p1), .val (.int p2), .val (.int p3), .val (.int p4), .val (.int ((p4 &&& 3) % (3 : Int32))), .val (.int ((((p4.toUInt32 >>> ((2 : Int32) &&& 31).toUInt32).toInt32) &&& 3) % (3 : Int32))), .val (.int za), .unset, .unset, .unset, .unset, .unset, .unset, .unset, .unset] [(.int zb)]
  refine o_istore W0 (L' := #[vi p0, vi p1, vi p2, vi p3, vi p4, vi ((p4 &&& 3) % (3 : Int32)), .val (.int ((((p4.toUInt32 >>> ((2 : Int32) &&& 31).toUInt32).toInt32) &&& 3) % (3 : Int32))), vi za, vi zb, un, un, un, un, un, un, un]) 48 (hb hy at_46) rfl rfl ?_
  rcases own_and33 p4 with ek7 | ek7 | ek7
  · rw [ek7]
    rcases own_and33 ((p4.toUInt32 >>> ((2 : Int32) &&& 31).toUInt32).toInt32) with ek8 | ek8 | ek8
    · rw [ek8]
      refine o_iloadN W0 49 (hb hy at_48) rfl rfl <| o_iload W0 51 (hb hy at_49) rfl rfl <| o_iconst W0 (v := 1) 52 (hb hy at_51) rfl rfl <| o_icmpY W0 59 (hb hy at_52) (XT.ii_ne_t (by decide)) (by decide) rfl <| o_iconst W0 (v := 0) 60 (hb hy at_59) rfl rfl ?_
      refine o_staticC W0 (w0 hw) (w1 hw) (w2 hw) (w3 hw) (by decide) (rm6 l hw p0 (0 : Int32) h0 W0.old ) 0 0 0 (by decide) (by rw [hml]; rfl) (lenOf pd0 rfl) [] rfl rfl 63 (hb hy at_60) rfl rfl rfl all0 (fun _ K => IW.keep K sf0 W0.inv) ?_
      intro v9 T9 h9 lo9 W9 K9 q9
      obtain ⟨r1_9, P9_0, P9_1, rfl⟩ := q9.2.2
      show Gl _ _ _ _ _ _ _ _ [(.int r1_9)]
      refine o_istore W9 (L' := #[vi p0, vi p1, vi p2, vi p3, vi p4, vi 0, vi 0, vi za, vi zb, vi r1_9, un, un, un, un, un, un]) 65 (hb hy at_63) rfl rfl <| o_iloadN W9 66 (hb hy at_65) rfl rfl <| o_iconst W9 (v := 1) 67 (hb hy at_66) rfl rfl ?_
      refine o_staticC W9 (w0 hw) (w1 hw) (w2 hw) (w3 hw) (by decide) (rm6 l hw p1 (1 : Int32) h9 W9.old ) 0 0 0 (by decide) (by rw [hml]; rfl) (lenOf pd0 rfl) [] rfl rfl 70 (hb hy at_67) rfl rfl rfl all0 (fun _ K => IW.keep K sf0 W9.inv) ?_
      intro v10 T10 h10 lo10 W10 K10 q10
      obtain ⟨r1_10, P10_0, P10_1, rfl⟩ := q10.2.2
      show Gl _ _ _ _ _ _ _ _ [(.int r1_10)]
      refine o_istore W10 (L' := #[vi p0, vi p1, vi p2, vi p3, vi p4, vi 0, vi 0, vi za, vi zb, vi r1_9, vi r1_10, un, un, un, un, un]) 72 (hb hy at_70) rfl rfl <| o_iload W10 74 (hb hy at_72) rfl rfl <| o_iload W10 76 (hb hy at_74) rfl rfl <| o_iconst W10 (v := 1) 77 (hb hy at_76) rfl rfl <| o_icmpY W10 84 (hb hy at_77) (XT.ii_ne_t (by decide)) (by decide) rfl <| o_iconst W10 (v := 0) 85 (hb hy at_84) rfl rfl ?_
      refine o_staticC W10 (w0 hw) (w1 hw) (w2 hw) (w3 hw) (by decide) (rm6 l hw za (0 : Int32) h10 W10.old ) 0 0 0 (by decide) (by rw [hml]; rfl) (lenOf pd0 rfl) [] rfl rfl 88 (hb hy at_85) rfl rfl rfl all0 (fun _ K => IW.keep K sf0 W10.inv) ?_
      intro v11 T11 h11 lo11 W11 K11 q11
      obtain ⟨r1_11, P11_0, P11_1, rfl⟩ := q11.2.2
      show Gl _ _ _ _ _ _ _ _ [(.int r1_11)]
      refine o_istore W11 (L' := #[vi p0, vi p1, vi p2, vi p3, vi p4, vi 0, vi 0, vi za, vi zb, vi r1_9, vi r1_10, vi r1_11, un, un, un, un]) 90 (hb hy at_88) rfl rfl <| o_iload W11 92 (hb hy at_90) rfl rfl <| o_iconst W11 (v := 1) 93 (hb hy at_92) rfl rfl ?_
      refine o_staticC W11 (w0 hw) (w1 hw) (w2 hw) (w3 hw) (by decide) (rm6 l hw zb (1 : Int32) h11 W11.old ) 0 0 0 (by decide) (by rw [hml]; rfl) (lenOf pd0 rfl) [] rfl rfl 96 (hb hy at_93) rfl rfl rfl all0 (fun _ K => IW.keep K sf0 W11.inv) ?_
      intro v12 T12 h12 lo12 W12 K12 q12
      obtain ⟨r1_12, P12_0, P12_1, rfl⟩ := q12.2.2
      show Gl _ _ _ _ _ _ _ _ [(.int r1_12)]
      refine o_istore W12 (L' := #[vi p0, vi p1, vi p2, vi p3, vi p4, vi 0, vi 0, vi za, vi zb, vi r1_9, vi r1_10, vi r1_11, vi r1_12, un, un, un]) 98 (hb hy at_96) rfl rfl <| o_iload W12 100 (hb hy at_98) rfl rfl <| o_iload W12 102 (hb hy at_100) rfl rfl <| o_iload W12 104 (hb hy at_102) rfl rfl ?_
      refine o_staticW W12 (y := mn11) (w7 hw) (w8 hw) (w2 hw) (w9 hw) (by decide) (argsL := [iZ, (.int r1_9), (.int r1_10)]) (CtrW.back (Wd := 0) W12 (rm11 l hw gCS r1_9 r1_10 h12 W12.old SgCS NgCS) (w9 hw) (w2 hw) (by decide) (by decide) (own_EL hw)) (by rw [hml]; rfl) (lenOf pd4 rfl) (S := []) rfl (by exact Nat.le_of_eq rfl) 107 (hb hy at_104) rfl (cells' := 6) (slots' := 12) rfl rfl (by decide) (by decide) (wy := []) qf all0  ?_
      intro v13 T13 h13 V13 lo13 W13 K13 C13 q13
      obtain ⟨r1_13, P13_0, P13_1, P13_2, rfl⟩ := q13.2.2
      show Gl _ _ _ _ _ _ _ _ [(.ref r1_13)]
      refine o_astore W13 (L' := #[vi p0, vi p1, vi p2, vi p3, vi p4, vi 0, vi 0, vi za, vi zb, vi r1_9, vi r1_10, vi r1_11, vi r1_12, vr r1_13, un, un]) 109 (hb hy at_107) rfl rfl rfl <| o_iload W13 111 (hb hy at_109) rfl rfl <| o_iload W13 113 (hb hy at_111) rfl rfl <| o_iload W13 115 (hb hy at_113) rfl rfl ?_
      refine o_staticW W13 (y := mn11) (w7 hw) (w8 hw) (w2 hw) (w9 hw) (by decide) (argsL := [iZ, (.int r1_11), (.int r1_12)]) (CtrW.back (Wd := 0) W13 (rm11 l hw gCS r1_11 r1_12 h13 W13.old SgCS NgCS) (w9 hw) (w2 hw) (by decide) (by decide) (own_EL hw)) (by rw [hml]; rfl) (lenOf pd4 rfl) (S := []) rfl (by exact Nat.le_of_eq rfl) 118 (hb hy at_115) rfl (cells' := 12) (slots' := 24) rfl rfl (by decide) (by decide) (wy := []) qf all0  ?_
      intro v14 T14 h14 V14 lo14 W14 K14 C14 q14
      obtain ⟨r1_14, P14_0, P14_1, P14_2, rfl⟩ := q14.2.2
      show Gl _ _ _ _ _ _ _ _ [(.ref r1_14)]
      refine o_astore W14 (L' := #[vi p0, vi p1, vi p2, vi p3, vi p4, vi 0, vi 0, vi za, vi zb, vi r1_9, vi r1_10, vi r1_11, vi r1_12, vr r1_13, vr r1_14, un]) 120 (hb hy at_118) rfl rfl rfl <| o_iload W14 122 (hb hy at_120) rfl rfl <| o_ifY W14 149 (hb hy at_122) (XT.i0_le_t (by decide)) (by decide) rfl <| o_iload W14 151 (hb hy at_149) rfl rfl <| o_iconst W14 (v := 1) 152 (hb hy at_151) rfl rfl <| o_icmpY W14 180 (hb hy at_152) (XT.ii_le_t (by decide)) (by decide) rfl ?_
      refine o_iload W14 182 (hb hy at_180) rfl rfl <| o_iload W14 184 (hb hy at_182) rfl rfl ?_
      refine o_staticC W14 (w32 hw) (w33 hw) (w2 hw) (w34 hw) (by decide) (rm12 l hw  h14 W14.old ) 0 12 24 (by decide) (by rw [hml]; rfl) (lenOf pd5 rfl) [] rfl rfl 187 (hb hy at_184) rfl rfl rfl all0 (fun _ K => IW.keep K sf0 W14.inv) ?_
      intro v15 T15 h15 lo15 W15 K15 q15
      obtain rfl := q15.2.2
      show Gl _ _ _ _ _ _ _ _ [iZ]
      refine o_istore W15 (L' := #[vi p0, vi p1, vi p2, vi p3, vi p4, vi 0, vi 0, vi za, vi zb, vi r1_9, vi r1_10, vi r1_11, vi r1_12, vr r1_13, vr r1_14, vi 0]) 189 (hb hy at_187) rfl rfl <| o_aload W15 191 (hb hy at_189) rfl rfl rfl <| o_aload W15 193 (hb hy at_191) rfl rfl rfl ?_
      have c16 := ((P13_2.keep K14).keep K15)
      have c17 := (P14_2.keep K15)
      have c18 := ((P13_1.keep K14).keep K15)
      have c19 := (P14_1.keep K15)
      refine o_staticC W15 (w35 hw) (w36 hw) (w37 hw) (w38 hw) (by decide) (rm14 l hw r1_13 r1_14 h15 W15.old c18 c16 c19 c17) 0 12 24 (by decide) (by rw [hml]; rfl) (lenOf pd7 rfl) [] rfl rfl 196 (hb hy at_193) rfl rfl rfl all0 (fun _ K => IW.keep K sf0 W15.inv) ?_
      intro v20 T20 h20 lo20 W20 K20 q20
      obtain rfl := q20.2.2
      show Gl _ _ _ _ _ _ _ _ [iZ]
      refine o_staticC W20 (w54 hw) (w55 hw) (w2 hw) (w56 hw) (by decide) (rm15 l hw  h20 W20.old ) 0 12 24 (by decide) (by rw [hml]; rfl) (lenOf pd8 rfl) [] rfl rfl 199 (hb hy at_196) rfl rfl rfl all0 (fun _ K => IW.keep K sf0 W20.inv) ?_
      intro v21 T21 h21 lo21 W21 K21 q21
      obtain rfl := q21.2.2
      show Gl _ _ _ _ _ _ _ _ [iZ]
      refine o_iload W21 201 (hb hy at_199) rfl rfl <| o_icmpN W21 204 (hb hy at_201) (XT.ii_ne_f (by decide)) rfl <| o_iconst W21 (v := 1) 205 (hb hy at_204) rfl rfl <| o_goto W21 209 (hb hy at_205) (by decide) rfl ?_
      exact o_retNW W21 (own_EL hw) hlk (t := .boolean) hret (by simp) (z' := (1 : Int32)) (by decide) (hb hy at_209) (by decide) (by decide) rfl
    · rw [ek8]
      refine o_iloadN W0 49 (hb hy at_48) rfl rfl <| o_iload W0 51 (hb hy at_49) rfl rfl <| o_iconst W0 (v := 1) 52 (hb hy at_51) rfl rfl <| o_icmpY W0 59 (hb hy at_52) (XT.ii_ne_t (by decide)) (by decide) rfl <| o_iconst W0 (v := 0) 60 (hb hy at_59) rfl rfl ?_
      refine o_staticC W0 (w0 hw) (w1 hw) (w2 hw) (w3 hw) (by decide) (rm6 l hw p0 (0 : Int32) h0 W0.old ) 0 0 0 (by decide) (by rw [hml]; rfl) (lenOf pd0 rfl) [] rfl rfl 63 (hb hy at_60) rfl rfl rfl all0 (fun _ K => IW.keep K sf0 W0.inv) ?_
      intro v22 T22 h22 lo22 W22 K22 q22
      obtain ⟨r1_22, P22_0, P22_1, rfl⟩ := q22.2.2
      show Gl _ _ _ _ _ _ _ _ [(.int r1_22)]
      refine o_istore W22 (L' := #[vi p0, vi p1, vi p2, vi p3, vi p4, vi 0, vi 1, vi za, vi zb, vi r1_22, un, un, un, un, un, un]) 65 (hb hy at_63) rfl rfl <| o_iloadN W22 66 (hb hy at_65) rfl rfl <| o_iconst W22 (v := 1) 67 (hb hy at_66) rfl rfl ?_
      refine o_staticC W22 (w0 hw) (w1 hw) (w2 hw) (w3 hw) (by decide) (rm6 l hw p1 (1 : Int32) h22 W22.old ) 0 0 0 (by decide) (by rw [hml]; rfl) (lenOf pd0 rfl) [] rfl rfl 70 (hb hy at_67) rfl rfl rfl all0 (fun _ K => IW.keep K sf0 W22.inv) ?_
      intro v23 T23 h23 lo23 W23 K23 q23
      obtain ⟨r1_23, P23_0, P23_1, rfl⟩ := q23.2.2
      show Gl _ _ _ _ _ _ _ _ [(.int r1_23)]
      refine o_istore W23 (L' := #[vi p0, vi p1, vi p2, vi p3, vi p4, vi 0, vi 1, vi za, vi zb, vi r1_22, vi r1_23, un, un, un, un, un]) 72 (hb hy at_70) rfl rfl <| o_iload W23 74 (hb hy at_72) rfl rfl <| o_iload W23 76 (hb hy at_74) rfl rfl <| o_iconst W23 (v := 1) 77 (hb hy at_76) rfl rfl <| o_icmpN W23 80 (hb hy at_77) (XT.ii_ne_f (by decide)) rfl <| o_iconst W23 (v := 1) 81 (hb hy at_80) rfl rfl ?_
      refine o_goto W23 85 (hb hy at_81) (by decide) rfl ?_
      refine o_staticC W23 (w0 hw) (w1 hw) (w2 hw) (w3 hw) (by decide) (rm6 l hw za (1 : Int32) h23 W23.old ) 0 0 0 (by decide) (by rw [hml]; rfl) (lenOf pd0 rfl) [] rfl rfl 88 (hb hy at_85) rfl rfl rfl all0 (fun _ K => IW.keep K sf0 W23.inv) ?_
      intro v24 T24 h24 lo24 W24 K24 q24
      obtain ⟨r1_24, P24_0, P24_1, rfl⟩ := q24.2.2
      show Gl _ _ _ _ _ _ _ _ [(.int r1_24)]
      refine o_istore W24 (L' := #[vi p0, vi p1, vi p2, vi p3, vi p4, vi 0, vi 1, vi za, vi zb, vi r1_22, vi r1_23, vi r1_24, un, un, un, un]) 90 (hb hy at_88) rfl rfl <| o_iload W24 92 (hb hy at_90) rfl rfl <| o_iconst W24 (v := 1) 93 (hb hy at_92) rfl rfl ?_
      refine o_staticC W24 (w0 hw) (w1 hw) (w2 hw) (w3 hw) (by decide) (rm6 l hw zb (1 : Int32) h24 W24.old ) 0 0 0 (by decide) (by rw [hml]; rfl) (lenOf pd0 rfl) [] rfl rfl 96 (hb hy at_93) rfl rfl rfl all0 (fun _ K => IW.keep K sf0 W24.inv) ?_
      intro v25 T25 h25 lo25 W25 K25 q25
      obtain ⟨r1_25, P25_0, P25_1, rfl⟩ := q25.2.2
      show Gl _ _ _ _ _ _ _ _ [(.int r1_25)]
      refine o_istore W25 (L' := #[vi p0, vi p1, vi p2, vi p3, vi p4, vi 0, vi 1, vi za, vi zb, vi r1_22, vi r1_23, vi r1_24, vi r1_25, un, un, un]) 98 (hb hy at_96) rfl rfl <| o_iload W25 100 (hb hy at_98) rfl rfl <| o_iload W25 102 (hb hy at_100) rfl rfl <| o_iload W25 104 (hb hy at_102) rfl rfl ?_
      refine o_staticW W25 (y := mn11) (w7 hw) (w8 hw) (w2 hw) (w9 hw) (by decide) (argsL := [iZ, (.int r1_22), (.int r1_23)]) (CtrW.back (Wd := 0) W25 (rm11 l hw gCS r1_22 r1_23 h25 W25.old SgCS NgCS) (w9 hw) (w2 hw) (by decide) (by decide) (own_EL hw)) (by rw [hml]; rfl) (lenOf pd4 rfl) (S := []) rfl (by exact Nat.le_of_eq rfl) 107 (hb hy at_104) rfl (cells' := 6) (slots' := 12) rfl rfl (by decide) (by decide) (wy := []) qf all0  ?_
      intro v26 T26 h26 V26 lo26 W26 K26 C26 q26
      obtain ⟨r1_26, P26_0, P26_1, P26_2, rfl⟩ := q26.2.2
      show Gl _ _ _ _ _ _ _ _ [(.ref r1_26)]
      refine o_astore W26 (L' := #[vi p0, vi p1, vi p2, vi p3, vi p4, vi 0, vi 1, vi za, vi zb, vi r1_22, vi r1_23, vi r1_24, vi r1_25, vr r1_26, un, un]) 109 (hb hy at_107) rfl rfl rfl <| o_iload W26 111 (hb hy at_109) rfl rfl <| o_iload W26 113 (hb hy at_111) rfl rfl <| o_iload W26 115 (hb hy at_113) rfl rfl ?_
      refine o_staticC W26 (w7 hw) (w8 hw) (w2 hw) (w9 hw) (by decide) (rm65 l hw gCS gF r1_24 r1_25 h26 W26.old P24_0 SgCS NgCS SgF NgF z0 z1 z2) 0 10 24 (by decide) (by rw [hml]; rfl) (lenOf pd4 rfl) [] rfl rfl 118 (hb hy at_115) rfl rfl rfl all0 (fun _ K => IW.keep K sf0 W26.inv) ?_
      intro v27 T27 h27 lo27 W27 K27 q27
      obtain ⟨r1_27, P27_0, P27_1, P27_2, rfl⟩ := q27.2.2
      show Gl _ _ _ _ _ _ _ _ [(.ref r1_27)]
      refine o_astore W27 (L' := #[vi p0, vi p1, vi p2, vi p3, vi p4, vi 0, vi 1, vi za, vi zb, vi r1_22, vi r1_23, vi r1_24, vi r1_25, vr r1_26, vr r1_27, un]) 120 (hb hy at_118) rfl rfl rfl <| o_iload W27 122 (hb hy at_120) rfl rfl <| o_ifY W27 149 (hb hy at_122) (XT.i0_le_t (by decide)) (by decide) rfl <| o_iload W27 151 (hb hy at_149) rfl rfl <| o_iconst W27 (v := 1) 152 (hb hy at_151) rfl rfl <| o_icmpY W27 180 (hb hy at_152) (XT.ii_le_t (by decide)) (by decide) rfl ?_
      refine o_iload W27 182 (hb hy at_180) rfl rfl <| o_iload W27 184 (hb hy at_182) rfl rfl ?_
      refine o_staticC W27 (w32 hw) (w33 hw) (w2 hw) (w34 hw) (by decide) (rm66 l hw  h27 W27.old ) 0 10 24 (by decide) (by rw [hml]; rfl) (lenOf pd5 rfl) [] rfl rfl 187 (hb hy at_184) rfl rfl rfl all0 (fun _ K => IW.keep K sf0 W27.inv) ?_
      intro v28 T28 h28 lo28 W28 K28 q28
      obtain rfl := q28.2.2
      show Gl _ _ _ _ _ _ _ _ [(.int (-1 : Int32))]
      refine o_istore W28 (L' := #[vi p0, vi p1, vi p2, vi p3, vi p4, vi 0, vi 1, vi za, vi zb, vi r1_22, vi r1_23, vi r1_24, vi r1_25, vr r1_26, vr r1_27, vi (-1 : Int32)]) 189 (hb hy at_187) rfl rfl <| o_aload W28 191 (hb hy at_189) rfl rfl rfl <| o_aload W28 193 (hb hy at_191) rfl rfl rfl ?_
      have c29 := ((P26_2.keep K27).keep K28)
      have c30 := (P27_2.keep K28)
      have c31 := ((P26_1.keep K27).keep K28)
      have c32 := (P27_1.keep K28)
      refine o_staticC W28 (w35 hw) (w36 hw) (w37 hw) (w38 hw) (by decide) (rm68 l hw r1_26 r1_27 r1_24 h28 W28.old c31 c29 c32 c30) 0 10 24 (by decide) (by rw [hml]; rfl) (lenOf pd7 rfl) [] rfl rfl 196 (hb hy at_193) rfl rfl rfl all0 (fun _ K => IW.keep K sf0 W28.inv) ?_
      intro v33 T33 h33 lo33 W33 K33 q33
      obtain rfl := q33.2.2
      show Gl _ _ _ _ _ _ _ _ [(.int (-1 : Int32))]
      refine o_staticC W33 (w54 hw) (w55 hw) (w2 hw) (w56 hw) (by decide) (rm69 l hw  h33 W33.old ) 0 10 24 (by decide) (by rw [hml]; rfl) (lenOf pd8 rfl) [] rfl rfl 199 (hb hy at_196) rfl rfl rfl all0 (fun _ K => IW.keep K sf0 W33.inv) ?_
      intro v34 T34 h34 lo34 W34 K34 q34
      obtain rfl := q34.2.2
      show Gl _ _ _ _ _ _ _ _ [(.int (-1 : Int32))]
      refine o_iload W34 201 (hb hy at_199) rfl rfl <| o_icmpN W34 204 (hb hy at_201) (XT.ii_ne_f (by decide)) rfl <| o_iconst W34 (v := 1) 205 (hb hy at_204) rfl rfl <| o_goto W34 209 (hb hy at_205) (by decide) rfl ?_
      exact o_retNW W34 (own_EL hw) hlk (t := .boolean) hret (by simp) (z' := (1 : Int32)) (by decide) (hb hy at_209) (by decide) (by decide) rfl
    · rw [ek8]
      refine o_iloadN W0 49 (hb hy at_48) rfl rfl <| o_iload W0 51 (hb hy at_49) rfl rfl <| o_iconst W0 (v := 1) 52 (hb hy at_51) rfl rfl <| o_icmpY W0 59 (hb hy at_52) (XT.ii_ne_t (by decide)) (by decide) rfl <| o_iconst W0 (v := 0) 60 (hb hy at_59) rfl rfl ?_
      refine o_staticC W0 (w0 hw) (w1 hw) (w2 hw) (w3 hw) (by decide) (rm6 l hw p0 (0 : Int32) h0 W0.old ) 0 0 0 (by decide) (by rw [hml]; rfl) (lenOf pd0 rfl) [] rfl rfl 63 (hb hy at_60) rfl rfl rfl all0 (fun _ K => IW.keep K sf0 W0.inv) ?_
      intro v35 T35 h35 lo35 W35 K35 q35
      obtain ⟨r1_35, P35_0, P35_1, rfl⟩ := q35.2.2
      show Gl _ _ _ _ _ _ _ _ [(.int r1_35)]
      refine o_istore W35 (L' := #[vi p0, vi p1, vi p2, vi p3, vi p4, vi 0, vi 2, vi za, vi zb, vi r1_35, un, un, un, un, un, un]) 65 (hb hy at_63) rfl rfl <| o_iloadN W35 66 (hb hy at_65) rfl rfl <| o_iconst W35 (v := 1) 67 (hb hy at_66) rfl rfl ?_
      refine o_staticC W35 (w0 hw) (w1 hw) (w2 hw) (w3 hw) (by decide) (rm6 l hw p1 (1 : Int32) h35 W35.old ) 0 0 0 (by decide) (by rw [hml]; rfl) (lenOf pd0 rfl) [] rfl rfl 70 (hb hy at_67) rfl rfl rfl all0 (fun _ K => IW.keep K sf0 W35.inv) ?_
      intro v36 T36 h36 lo36 W36 K36 q36
      obtain ⟨r1_36, P36_0, P36_1, rfl⟩ := q36.2.2
      show Gl _ _ _ _ _ _ _ _ [(.int r1_36)]
      refine o_istore W36 (L' := #[vi p0, vi p1, vi p2, vi p3, vi p4, vi 0, vi 2, vi za, vi zb, vi r1_35, vi r1_36, un, un, un, un, un]) 72 (hb hy at_70) rfl rfl <| o_iload W36 74 (hb hy at_72) rfl rfl <| o_iload W36 76 (hb hy at_74) rfl rfl <| o_iconst W36 (v := 1) 77 (hb hy at_76) rfl rfl <| o_icmpY W36 84 (hb hy at_77) (XT.ii_ne_t (by decide)) (by decide) rfl <| o_iconst W36 (v := 0) 85 (hb hy at_84) rfl rfl ?_
      refine o_staticC W36 (w0 hw) (w1 hw) (w2 hw) (w3 hw) (by decide) (rm6 l hw za (0 : Int32) h36 W36.old ) 0 0 0 (by decide) (by rw [hml]; rfl) (lenOf pd0 rfl) [] rfl rfl 88 (hb hy at_85) rfl rfl rfl all0 (fun _ K => IW.keep K sf0 W36.inv) ?_
      intro v37 T37 h37 lo37 W37 K37 q37
      obtain ⟨r1_37, P37_0, P37_1, rfl⟩ := q37.2.2
      show Gl _ _ _ _ _ _ _ _ [(.int r1_37)]
      refine o_istore W37 (L' := #[vi p0, vi p1, vi p2, vi p3, vi p4, vi 0, vi 2, vi za, vi zb, vi r1_35, vi r1_36, vi r1_37, un, un, un, un]) 90 (hb hy at_88) rfl rfl <| o_iload W37 92 (hb hy at_90) rfl rfl <| o_iconst W37 (v := 1) 93 (hb hy at_92) rfl rfl ?_
      refine o_staticC W37 (w0 hw) (w1 hw) (w2 hw) (w3 hw) (by decide) (rm6 l hw zb (1 : Int32) h37 W37.old ) 0 0 0 (by decide) (by rw [hml]; rfl) (lenOf pd0 rfl) [] rfl rfl 96 (hb hy at_93) rfl rfl rfl all0 (fun _ K => IW.keep K sf0 W37.inv) ?_
      intro v38 T38 h38 lo38 W38 K38 q38
      obtain ⟨r1_38, P38_0, P38_1, rfl⟩ := q38.2.2
      show Gl _ _ _ _ _ _ _ _ [(.int r1_38)]
      refine o_istore W38 (L' := #[vi p0, vi p1, vi p2, vi p3, vi p4, vi 0, vi 2, vi za, vi zb, vi r1_35, vi r1_36, vi r1_37, vi r1_38, un, un, un]) 98 (hb hy at_96) rfl rfl <| o_iload W38 100 (hb hy at_98) rfl rfl <| o_iload W38 102 (hb hy at_100) rfl rfl <| o_iload W38 104 (hb hy at_102) rfl rfl ?_
      refine o_staticW W38 (y := mn11) (w7 hw) (w8 hw) (w2 hw) (w9 hw) (by decide) (argsL := [iZ, (.int r1_35), (.int r1_36)]) (CtrW.back (Wd := 0) W38 (rm11 l hw gCS r1_35 r1_36 h38 W38.old SgCS NgCS) (w9 hw) (w2 hw) (by decide) (by decide) (own_EL hw)) (by rw [hml]; rfl) (lenOf pd4 rfl) (S := []) rfl (by exact Nat.le_of_eq rfl) 107 (hb hy at_104) rfl (cells' := 6) (slots' := 12) rfl rfl (by decide) (by decide) (wy := []) qf all0  ?_
      intro v39 T39 h39 V39 lo39 W39 K39 C39 q39
      obtain ⟨r1_39, P39_0, P39_1, P39_2, rfl⟩ := q39.2.2
      show Gl _ _ _ _ _ _ _ _ [(.ref r1_39)]
      refine o_astore W39 (L' := #[vi p0, vi p1, vi p2, vi p3, vi p4, vi 0, vi 2, vi za, vi zb, vi r1_35, vi r1_36, vi r1_37, vi r1_38, vr r1_39, un, un]) 109 (hb hy at_107) rfl rfl rfl <| o_iload W39 111 (hb hy at_109) rfl rfl <| o_iload W39 113 (hb hy at_111) rfl rfl <| o_iload W39 115 (hb hy at_113) rfl rfl ?_
      refine o_staticC W39 (w7 hw) (w8 hw) (w2 hw) (w9 hw) (by decide) (rm188 l hw gCS gF r1_37 r1_38 h39 W39.old P37_0 P38_0 SgCS NgCS SgF NgF z0 z1 z2 (P37_1 rfl)) 0 10 32 (by decide) (by rw [hml]; rfl) (lenOf pd4 rfl) [] rfl rfl 118 (hb hy at_115) rfl rfl rfl all0 (fun _ K => IW.keep K sf0 W39.inv) ?_
      intro v40 T40 h40 lo40 W40 K40 q40
      obtain ⟨r1_40, P40_0, P40_1, P40_2, rfl⟩ := q40.2.2
      show Gl _ _ _ _ _ _ _ _ [(.ref r1_40)]
      refine o_astore W40 (L' := #[vi p0, vi p1, vi p2, vi p3, vi p4, vi 0, vi 2, vi za, vi zb, vi r1_35, vi r1_36, vi r1_37, vi r1_38, vr r1_39, vr r1_40, un]) 120 (hb hy at_118) rfl rfl rfl <| o_iload W40 122 (hb hy at_120) rfl rfl <| o_ifY W40 149 (hb hy at_122) (XT.i0_le_t (by decide)) (by decide) rfl <| o_iload W40 151 (hb hy at_149) rfl rfl <| o_iconst W40 (v := 1) 152 (hb hy at_151) rfl rfl <| o_icmpY W40 180 (hb hy at_152) (XT.ii_le_t (by decide)) (by decide) rfl ?_
      refine o_iload W40 182 (hb hy at_180) rfl rfl <| o_iload W40 184 (hb hy at_182) rfl rfl ?_
      refine o_staticC W40 (w32 hw) (w33 hw) (w2 hw) (w34 hw) (by decide) (rm189 l hw  h40 W40.old ) 0 10 32 (by decide) (by rw [hml]; rfl) (lenOf pd5 rfl) [] rfl rfl 187 (hb hy at_184) rfl rfl rfl all0 (fun _ K => IW.keep K sf0 W40.inv) ?_
      intro v41 T41 h41 lo41 W41 K41 q41
      obtain rfl := q41.2.2
      show Gl _ _ _ _ _ _ _ _ [(.int (-1 : Int32))]
      refine o_istore W41 (L' := #[vi p0, vi p1, vi p2, vi p3, vi p4, vi 0, vi 2, vi za, vi zb, vi r1_35, vi r1_36, vi r1_37, vi r1_38, vr r1_39, vr r1_40, vi (-1 : Int32)]) 189 (hb hy at_187) rfl rfl <| o_aload W41 191 (hb hy at_189) rfl rfl rfl <| o_aload W41 193 (hb hy at_191) rfl rfl rfl ?_
      have c42 := ((P39_2.keep K40).keep K41)
      have c43 := (P40_2.keep K41)
      have c44 := ((P39_1.keep K40).keep K41)
      have c45 := (P40_1.keep K41)
      refine o_staticC W41 (w35 hw) (w36 hw) (w37 hw) (w38 hw) (by decide) (rm190 l hw r1_39 r1_40 r1_37 r1_38 h41 W41.old c44 c42 c45 c43) 0 10 32 (by decide) (by rw [hml]; rfl) (lenOf pd7 rfl) [] rfl rfl 196 (hb hy at_193) rfl rfl rfl all0 (fun _ K => IW.keep K sf0 W41.inv) ?_
      intro v46 T46 h46 lo46 W46 K46 q46
      obtain rfl := q46.2.2
      show Gl _ _ _ _ _ _ _ _ [(.int (-1 : Int32))]
      refine o_staticC W46 (w54 hw) (w55 hw) (w2 hw) (w56 hw) (by decide) (rm69 l hw  h46 W46.old ) 0 10 32 (by decide) (by rw [hml]; rfl) (lenOf pd8 rfl) [] rfl rfl 199 (hb hy at_196) rfl rfl rfl all0 (fun _ K => IW.keep K sf0 W46.inv) ?_
      intro v47 T47 h47 lo47 W47 K47 q47
      obtain rfl := q47.2.2
      show Gl _ _ _ _ _ _ _ _ [(.int (-1 : Int32))]
      refine o_iload W47 201 (hb hy at_199) rfl rfl <| o_icmpN W47 204 (hb hy at_201) (XT.ii_ne_f (by decide)) rfl <| o_iconst W47 (v := 1) 205 (hb hy at_204) rfl rfl <| o_goto W47 209 (hb hy at_205) (by decide) rfl ?_
      exact o_retNW W47 (own_EL hw) hlk (t := .boolean) hret (by simp) (z' := (1 : Int32)) (by decide) (hb hy at_209) (by decide) (by decide) rfl
  · rw [ek7]
    rcases own_and33 ((p4.toUInt32 >>> ((2 : Int32) &&& 31).toUInt32).toInt32) with ek48 | ek48 | ek48
    · rw [ek48]
      refine o_iloadN W0 49 (hb hy at_48) rfl rfl <| o_iload W0 51 (hb hy at_49) rfl rfl <| o_iconst W0 (v := 1) 52 (hb hy at_51) rfl rfl <| o_icmpN W0 55 (hb hy at_52) (XT.ii_ne_f (by decide)) rfl <| o_iconst W0 (v := 1) 56 (hb hy at_55) rfl rfl <| o_goto W0 60 (hb hy at_56) (by decide) rfl ?_
      refine o_staticC W0 (w0 hw) (w1 hw) (w2 hw) (w3 hw) (by decide) (rm6 l hw p0 (1 : Int32) h0 W0.old ) 0 0 0 (by decide) (by rw [hml]; rfl) (lenOf pd0 rfl) [] rfl rfl 63 (hb hy at_60) rfl rfl rfl all0 (fun _ K => IW.keep K sf0 W0.inv) ?_
      intro v49 T49 h49 lo49 W49 K49 q49
      obtain ⟨r1_49, P49_0, P49_1, rfl⟩ := q49.2.2
      show Gl _ _ _ _ _ _ _ _ [(.int r1_49)]
      refine o_istore W49 (L' := #[vi p0, vi p1, vi p2, vi p3, vi p4, vi 1, vi 0, vi za, vi zb, vi r1_49, un, un, un, un, un, un]) 65 (hb hy at_63) rfl rfl <| o_iloadN W49 66 (hb hy at_65) rfl rfl <| o_iconst W49 (v := 1) 67 (hb hy at_66) rfl rfl ?_
      refine o_staticC W49 (w0 hw) (w1 hw) (w2 hw) (w3 hw) (by decide) (rm6 l hw p1 (1 : Int32) h49 W49.old ) 0 0 0 (by decide) (by rw [hml]; rfl) (lenOf pd0 rfl) [] rfl rfl 70 (hb hy at_67) rfl rfl rfl all0 (fun _ K => IW.keep K sf0 W49.inv) ?_
      intro v50 T50 h50 lo50 W50 K50 q50
      obtain ⟨r1_50, P50_0, P50_1, rfl⟩ := q50.2.2
      show Gl _ _ _ _ _ _ _ _ [(.int r1_50)]
      refine o_istore W50 (L' := #[vi p0, vi p1, vi p2, vi p3, vi p4, vi 1, vi 0, vi za, vi zb, vi r1_49, vi r1_50, un, un, un, un, un]) 72 (hb hy at_70) rfl rfl <| o_iload W50 74 (hb hy at_72) rfl rfl <| o_iload W50 76 (hb hy at_74) rfl rfl <| o_iconst W50 (v := 1) 77 (hb hy at_76) rfl rfl <| o_icmpY W50 84 (hb hy at_77) (XT.ii_ne_t (by decide)) (by decide) rfl <| o_iconst W50 (v := 0) 85 (hb hy at_84) rfl rfl ?_
      refine o_staticC W50 (w0 hw) (w1 hw) (w2 hw) (w3 hw) (by decide) (rm6 l hw za (0 : Int32) h50 W50.old ) 0 0 0 (by decide) (by rw [hml]; rfl) (lenOf pd0 rfl) [] rfl rfl 88 (hb hy at_85) rfl rfl rfl all0 (fun _ K => IW.keep K sf0 W50.inv) ?_
      intro v51 T51 h51 lo51 W51 K51 q51
      obtain ⟨r1_51, P51_0, P51_1, rfl⟩ := q51.2.2
      show Gl _ _ _ _ _ _ _ _ [(.int r1_51)]
      refine o_istore W51 (L' := #[vi p0, vi p1, vi p2, vi p3, vi p4, vi 1, vi 0, vi za, vi zb, vi r1_49, vi r1_50, vi r1_51, un, un, un, un]) 90 (hb hy at_88) rfl rfl <| o_iload W51 92 (hb hy at_90) rfl rfl <| o_iconst W51 (v := 1) 93 (hb hy at_92) rfl rfl ?_
      refine o_staticC W51 (w0 hw) (w1 hw) (w2 hw) (w3 hw) (by decide) (rm6 l hw zb (1 : Int32) h51 W51.old ) 0 0 0 (by decide) (by rw [hml]; rfl) (lenOf pd0 rfl) [] rfl rfl 96 (hb hy at_93) rfl rfl rfl all0 (fun _ K => IW.keep K sf0 W51.inv) ?_
      intro v52 T52 h52 lo52 W52 K52 q52
      obtain ⟨r1_52, P52_0, P52_1, rfl⟩ := q52.2.2
      show Gl _ _ _ _ _ _ _ _ [(.int r1_52)]
      refine o_istore W52 (L' := #[vi p0, vi p1, vi p2, vi p3, vi p4, vi 1, vi 0, vi za, vi zb, vi r1_49, vi r1_50, vi r1_51, vi r1_52, un, un, un]) 98 (hb hy at_96) rfl rfl <| o_iload W52 100 (hb hy at_98) rfl rfl <| o_iload W52 102 (hb hy at_100) rfl rfl <| o_iload W52 104 (hb hy at_102) rfl rfl ?_
      refine o_staticC W52 (w7 hw) (w8 hw) (w2 hw) (w9 hw) (by decide) (rm65 l hw gCS gF r1_49 r1_50 h52 W52.old P49_0 SgCS NgCS SgF NgF z0 z1 z2) 0 4 12 (by decide) (by rw [hml]; rfl) (lenOf pd4 rfl) [] rfl rfl 107 (hb hy at_104) rfl rfl rfl all0 (fun _ K => IW.keep K sf0 W52.inv) ?_
      intro v53 T53 h53 lo53 W53 K53 q53
      obtain ⟨r1_53, P53_0, P53_1, P53_2, rfl⟩ := q53.2.2
      show Gl _ _ _ _ _ _ _ _ [(.ref r1_53)]
      refine o_astore W53 (L' := #[vi p0, vi p1, vi p2, vi p3, vi p4, vi 1, vi 0, vi za, vi zb, vi r1_49, vi r1_50, vi r1_51, vi r1_52, vr r1_53, un, un]) 109 (hb hy at_107) rfl rfl rfl <| o_iload W53 111 (hb hy at_109) rfl rfl <| o_iload W53 113 (hb hy at_111) rfl rfl <| o_iload W53 115 (hb hy at_113) rfl rfl ?_
      refine o_staticW W53 (y := mn11) (w7 hw) (w8 hw) (w2 hw) (w9 hw) (by decide) (argsL := [iZ, (.int r1_51), (.int r1_52)]) (CtrW.back (Wd := 0) W53 (rm11 l hw gCS r1_51 r1_52 h53 W53.old SgCS NgCS) (w9 hw) (w2 hw) (by decide) (by decide) (own_EL hw)) (by rw [hml]; rfl) (lenOf pd4 rfl) (S := []) rfl (by exact Nat.le_of_eq rfl) 118 (hb hy at_115) rfl (cells' := 10) (slots' := 24) rfl rfl (by decide) (by decide) (wy := []) qf all0  ?_
      intro v54 T54 h54 V54 lo54 W54 K54 C54 q54
      obtain ⟨r1_54, P54_0, P54_1, P54_2, rfl⟩ := q54.2.2
      show Gl _ _ _ _ _ _ _ _ [(.ref r1_54)]
      refine o_astore W54 (L' := #[vi p0, vi p1, vi p2, vi p3, vi p4, vi 1, vi 0, vi za, vi zb, vi r1_49, vi r1_50, vi r1_51, vi r1_52, vr r1_53, vr r1_54, un]) 120 (hb hy at_118) rfl rfl rfl <| o_iload W54 122 (hb hy at_120) rfl rfl <| o_ifN W54 125 (hb hy at_122) (XT.i0_le_f (by decide)) rfl <| o_iload W54 127 (hb hy at_125) rfl rfl <| o_ifY W54 149 (hb hy at_127) (XT.i0_le_t (by decide)) (by decide) rfl <| o_iload W54 151 (hb hy at_149) rfl rfl ?_
      refine o_iconst W54 (v := 1) 152 (hb hy at_151) rfl rfl <| o_icmpY W54 180 (hb hy at_152) (XT.ii_le_t (by decide)) (by decide) rfl <| o_iload W54 182 (hb hy at_180) rfl rfl <| o_iload W54 184 (hb hy at_182) rfl rfl ?_
      refine o_staticC W54 (w32 hw) (w33 hw) (w2 hw) (w34 hw) (by decide) (rm191 l hw  h54 W54.old ) 0 10 24 (by decide) (by rw [hml]; rfl) (lenOf pd5 rfl) [] rfl rfl 187 (hb hy at_184) rfl rfl rfl all0 (fun _ K => IW.keep K sf0 W54.inv) ?_
      intro v55 T55 h55 lo55 W55 K55 q55
      obtain rfl := q55.2.2
      show Gl _ _ _ _ _ _ _ _ [(.int 1)]
      refine o_istore W55 (L' := #[vi p0, vi p1, vi p2, vi p3, vi p4, vi 1, vi 0, vi za, vi zb, vi r1_49, vi r1_50, vi r1_51, vi r1_52, vr r1_53, vr r1_54, vi 1]) 189 (hb hy at_187) rfl rfl <| o_aload W55 191 (hb hy at_189) rfl rfl rfl <| o_aload W55 193 (hb hy at_191) rfl rfl rfl ?_
      have c56 := ((P53_2.keep K54).keep K55)
      have c57 := (P54_2.keep K55)
      have c58 := ((P53_1.keep K54).keep K55)
      have c59 := (P54_1.keep K55)
      refine o_staticC W55 (w35 hw) (w36 hw) (w37 hw) (w38 hw) (by decide) (rm193 l hw r1_53 r1_54 r1_49 h55 W55.old c58 c56 c59 c57) 0 10 24 (by decide) (by rw [hml]; rfl) (lenOf pd7 rfl) [] rfl rfl 196 (hb hy at_193) rfl rfl rfl all0 (fun _ K => IW.keep K sf0 W55.inv) ?_
      intro v60 T60 h60 lo60 W60 K60 q60
      obtain rfl := q60.2.2
      show Gl _ _ _ _ _ _ _ _ [(.int 1)]
      refine o_staticC W60 (w54 hw) (w55 hw) (w2 hw) (w56 hw) (by decide) (rm194 l hw  h60 W60.old ) 0 10 24 (by decide) (by rw [hml]; rfl) (lenOf pd8 rfl) [] rfl rfl 199 (hb hy at_196) rfl rfl rfl all0 (fun _ K => IW.keep K sf0 W60.inv) ?_
      intro v61 T61 h61 lo61 W61 K61 q61
      obtain rfl := q61.2.2
      show Gl _ _ _ _ _ _ _ _ [(.int 1)]
      refine o_iload W61 201 (hb hy at_199) rfl rfl <| o_icmpN W61 204 (hb hy at_201) (XT.ii_ne_f (by decide)) rfl <| o_iconst W61 (v := 1) 205 (hb hy at_204) rfl rfl <| o_goto W61 209 (hb hy at_205) (by decide) rfl ?_
      exact o_retNW W61 (own_EL hw) hlk (t := .boolean) hret (by simp) (z' := (1 : Int32)) (by decide) (hb hy at_209) (by decide) (by decide) rfl
    · rw [ek48]
      refine o_iloadN W0 49 (hb hy at_48) rfl rfl <| o_iload W0 51 (hb hy at_49) rfl rfl <| o_iconst W0 (v := 1) 52 (hb hy at_51) rfl rfl <| o_icmpN W0 55 (hb hy at_52) (XT.ii_ne_f (by decide)) rfl <| o_iconst W0 (v := 1) 56 (hb hy at_55) rfl rfl <| o_goto W0 60 (hb hy at_56) (by decide) rfl ?_
      refine o_staticC W0 (w0 hw) (w1 hw) (w2 hw) (w3 hw) (by decide) (rm6 l hw p0 (1 : Int32) h0 W0.old ) 0 0 0 (by decide) (by rw [hml]; rfl) (lenOf pd0 rfl) [] rfl rfl 63 (hb hy at_60) rfl rfl rfl all0 (fun _ K => IW.keep K sf0 W0.inv) ?_
      intro v62 T62 h62 lo62 W62 K62 q62
      obtain ⟨r1_62, P62_0, P62_1, rfl⟩ := q62.2.2
      show Gl _ _ _ _ _ _ _ _ [(.int r1_62)]
      refine o_istore W62 (L' := #[vi p0, vi p1, vi p2, vi p3, vi p4, vi 1, vi 1, vi za, vi zb, vi r1_62, un, un, un, un, un, un]) 65 (hb hy at_63) rfl rfl <| o_iloadN W62 66 (hb hy at_65) rfl rfl <| o_iconst W62 (v := 1) 67 (hb hy at_66) rfl rfl ?_
      refine o_staticC W62 (w0 hw) (w1 hw) (w2 hw) (w3 hw) (by decide) (rm6 l hw p1 (1 : Int32) h62 W62.old ) 0 0 0 (by decide) (by rw [hml]; rfl) (lenOf pd0 rfl) [] rfl rfl 70 (hb hy at_67) rfl rfl rfl all0 (fun _ K => IW.keep K sf0 W62.inv) ?_
      intro v63 T63 h63 lo63 W63 K63 q63
      obtain ⟨r1_63, P63_0, P63_1, rfl⟩ := q63.2.2
      show Gl _ _ _ _ _ _ _ _ [(.int r1_63)]
      refine o_istore W63 (L' := #[vi p0, vi p1, vi p2, vi p3, vi p4, vi 1, vi 1, vi za, vi zb, vi r1_62, vi r1_63, un, un, un, un, un]) 72 (hb hy at_70) rfl rfl <| o_iload W63 74 (hb hy at_72) rfl rfl <| o_iload W63 76 (hb hy at_74) rfl rfl <| o_iconst W63 (v := 1) 77 (hb hy at_76) rfl rfl <| o_icmpN W63 80 (hb hy at_77) (XT.ii_ne_f (by decide)) rfl <| o_iconst W63 (v := 1) 81 (hb hy at_80) rfl rfl ?_
      refine o_goto W63 85 (hb hy at_81) (by decide) rfl ?_
      refine o_staticC W63 (w0 hw) (w1 hw) (w2 hw) (w3 hw) (by decide) (rm6 l hw za (1 : Int32) h63 W63.old ) 0 0 0 (by decide) (by rw [hml]; rfl) (lenOf pd0 rfl) [] rfl rfl 88 (hb hy at_85) rfl rfl rfl all0 (fun _ K => IW.keep K sf0 W63.inv) ?_
      intro v64 T64 h64 lo64 W64 K64 q64
      obtain ⟨r1_64, P64_0, P64_1, rfl⟩ := q64.2.2
      show Gl _ _ _ _ _ _ _ _ [(.int r1_64)]
      refine o_istore W64 (L' := #[vi p0, vi p1, vi p2, vi p3, vi p4, vi 1, vi 1, vi za, vi zb, vi r1_62, vi r1_63, vi r1_64, un, un, un, un]) 90 (hb hy at_88) rfl rfl <| o_iload W64 92 (hb hy at_90) rfl rfl <| o_iconst W64 (v := 1) 93 (hb hy at_92) rfl rfl ?_
      refine o_staticC W64 (w0 hw) (w1 hw) (w2 hw) (w3 hw) (by decide) (rm6 l hw zb (1 : Int32) h64 W64.old ) 0 0 0 (by decide) (by rw [hml]; rfl) (lenOf pd0 rfl) [] rfl rfl 96 (hb hy at_93) rfl rfl rfl all0 (fun _ K => IW.keep K sf0 W64.inv) ?_
      intro v65 T65 h65 lo65 W65 K65 q65
      obtain ⟨r1_65, P65_0, P65_1, rfl⟩ := q65.2.2
      show Gl _ _ _ _ _ _ _ _ [(.int r1_65)]
      refine o_istore W65 (L' := #[vi p0, vi p1, vi p2, vi p3, vi p4, vi 1, vi 1, vi za, vi zb, vi r1_62, vi r1_63, vi r1_64, vi r1_65, un, un, un]) 98 (hb hy at_96) rfl rfl <| o_iload W65 100 (hb hy at_98) rfl rfl <| o_iload W65 102 (hb hy at_100) rfl rfl <| o_iload W65 104 (hb hy at_102) rfl rfl ?_
      refine o_staticC W65 (w7 hw) (w8 hw) (w2 hw) (w9 hw) (by decide) (rm65 l hw gCS gF r1_62 r1_63 h65 W65.old P62_0 SgCS NgCS SgF NgF z0 z1 z2) 0 4 12 (by decide) (by rw [hml]; rfl) (lenOf pd4 rfl) [] rfl rfl 107 (hb hy at_104) rfl rfl rfl all0 (fun _ K => IW.keep K sf0 W65.inv) ?_
      intro v66 T66 h66 lo66 W66 K66 q66
      obtain ⟨r1_66, P66_0, P66_1, P66_2, rfl⟩ := q66.2.2
      show Gl _ _ _ _ _ _ _ _ [(.ref r1_66)]
      refine o_astore W66 (L' := #[vi p0, vi p1, vi p2, vi p3, vi p4, vi 1, vi 1, vi za, vi zb, vi r1_62, vi r1_63, vi r1_64, vi r1_65, vr r1_66, un, un]) 109 (hb hy at_107) rfl rfl rfl <| o_iload W66 111 (hb hy at_109) rfl rfl <| o_iload W66 113 (hb hy at_111) rfl rfl <| o_iload W66 115 (hb hy at_113) rfl rfl ?_
      refine o_staticC W66 (w7 hw) (w8 hw) (w2 hw) (w9 hw) (by decide) (rm65 l hw gCS gF r1_64 r1_65 h66 W66.old P64_0 SgCS NgCS SgF NgF z0 z1 z2) 0 8 24 (by decide) (by rw [hml]; rfl) (lenOf pd4 rfl) [] rfl rfl 118 (hb hy at_115) rfl rfl rfl all0 (fun _ K => IW.keep K sf0 W66.inv) ?_
      intro v67 T67 h67 lo67 W67 K67 q67
      obtain ⟨r1_67, P67_0, P67_1, P67_2, rfl⟩ := q67.2.2
      show Gl _ _ _ _ _ _ _ _ [(.ref r1_67)]
      refine o_astore W67 (L' := #[vi p0, vi p1, vi p2, vi p3, vi p4, vi 1, vi 1, vi za, vi zb, vi r1_62, vi r1_63, vi r1_64, vi r1_65, vr r1_66, vr r1_67, un]) 120 (hb hy at_118) rfl rfl rfl <| o_iload W67 122 (hb hy at_120) rfl rfl <| o_ifN W67 125 (hb hy at_122) (XT.i0_le_f (by decide)) rfl <| o_iload W67 127 (hb hy at_125) rfl rfl <| o_ifN W67 130 (hb hy at_127) (XT.i0_le_f (by decide)) rfl <| o_iload W67 132 (hb hy at_130) rfl rfl ?_
      refine o_iload W67 134 (hb hy at_132) rfl rfl ?_
      by_cases hq68 : r1_62 = r1_64
      · refine o_icmpY W67 149 (hb hy at_134) (XT.ii_eq_t hq68) (by decide) rfl <| o_iload W67 151 (hb hy at_149) rfl rfl <| o_iconst W67 (v := 1) 152 (hb hy at_151) rfl rfl <| o_icmpY W67 180 (hb hy at_152) (XT.ii_le_t (by decide)) (by decide) rfl <| o_iload W67 182 (hb hy at_180) rfl rfl <| o_iload W67 184 (hb hy at_182) rfl rfl ?_
        refine o_staticC W67 (w32 hw) (w33 hw) (w2 hw) (w34 hw) (by decide) (rm195 l hw  h67 W67.old ) 0 8 24 (by decide) (by rw [hml]; rfl) (lenOf pd5 rfl) [] rfl rfl 187 (hb hy at_184) rfl rfl rfl all0 (fun _ K => IW.keep K sf0 W67.inv) ?_
        intro v69 T69 h69 lo69 W69 K69 q69
        obtain rfl := q69.2.2
        show Gl _ _ _ _ _ _ _ _ [iZ]
        refine o_istore W69 (L' := #[vi p0, vi p1, vi p2, vi p3, vi p4, vi 1, vi 1, vi za, vi zb, vi r1_62, vi r1_63, vi r1_64, vi r1_65, vr r1_66, vr r1_67, vi 0]) 189 (hb hy at_187) rfl rfl <| o_aload W69 191 (hb hy at_189) rfl rfl rfl <| o_aload W69 193 (hb hy at_191) rfl rfl rfl ?_
        have c70 := ((P66_2.keep K67).keep K69)
        have c71 := (P67_2.keep K69)
        have c72 := ((P66_1.keep K67).keep K69)
        have c73 := (P67_1.keep K69)
        refine o_staticC W69 (w35 hw) (w36 hw) (w37 hw) (w38 hw) (by decide) (rm197 l hw r1_66 r1_67 r1_62 r1_64 h69 W69.old c72 c70 c73 c71 hq68) 0 8 24 (by decide) (by rw [hml]; rfl) (lenOf pd7 rfl) [] rfl rfl 196 (hb hy at_193) rfl rfl rfl all0 (fun _ K => IW.keep K sf0 W69.inv) ?_
        intro v74 T74 h74 lo74 W74 K74 q74
        obtain rfl := q74.2.2
        show Gl _ _ _ _ _ _ _ _ [iZ]
        refine o_staticC W74 (w54 hw) (w55 hw) (w2 hw) (w56 hw) (by decide) (rm15 l hw  h74 W74.old ) 0 8 24 (by decide) (by rw [hml]; rfl) (lenOf pd8 rfl) [] rfl rfl 199 (hb hy at_196) rfl rfl rfl all0 (fun _ K => IW.keep K sf0 W74.inv) ?_
        intro v75 T75 h75 lo75 W75 K75 q75
        obtain rfl := q75.2.2
        show Gl _ _ _ _ _ _ _ _ [iZ]
        refine o_iload W75 201 (hb hy at_199) rfl rfl <| o_icmpN W75 204 (hb hy at_201) (XT.ii_ne_f (by decide)) rfl <| o_iconst W75 (v := 1) 205 (hb hy at_204) rfl rfl <| o_goto W75 209 (hb hy at_205) (by decide) rfl ?_
        exact o_retNW W75 (own_EL hw) hlk (t := .boolean) hret (by simp) (z' := (1 : Int32)) (by decide) (hb hy at_209) (by decide) (by decide) rfl
      · refine o_icmpN W67 137 (hb hy at_134) (XT.ii_eq_f hq68) rfl <| o_iload W67 139 (hb hy at_137) rfl rfl <| o_iload W67 141 (hb hy at_139) rfl rfl ?_
        rcases (Classical.em (r1_62 < r1_64)).symm with hq76 | hq76
        · refine o_staticC W67 (w32 hw) (w33 hw) (w2 hw) (w34 hw) (by decide) (rm198 l hw r1_62 r1_64 h67 W67.old hq76 (own_tri hq76 hq68)) 0 8 24 (by decide) (by rw [hml]; rfl) (lenOf pd5 rfl) [] rfl rfl 144 (hb hy at_141) rfl rfl rfl all0 (fun _ K => IW.keep K sf0 W67.inv) ?_
          intro v77 T77 h77 lo77 W77 K77 q77
          obtain rfl := q77.2.2
          show Gl _ _ _ _ _ _ _ _ [(.int 1)]
          refine o_istore W77 (L' := #[vi p0, vi p1, vi p2, vi p3, vi p4, vi 1, vi 1, vi za, vi zb, vi r1_62, vi r1_63, vi r1_64, vi r1_65, vr r1_66, vr r1_67, vi 1]) 146 (hb hy at_144) rfl rfl <| o_goto W77 189 (hb hy at_146) (by decide) rfl <| o_aload W77 191 (hb hy at_189) rfl rfl rfl <| o_aload W77 193 (hb hy at_191) rfl rfl rfl ?_
          have c78 := ((P66_2.keep K67).keep K77)
          have c79 := (P67_2.keep K77)
          have c80 := ((P66_1.keep K67).keep K77)
          have c81 := (P67_1.keep K77)
          refine o_staticC W77 (w35 hw) (w36 hw) (w37 hw) (w38 hw) (by decide) (rm200 l hw r1_66 r1_67 r1_62 r1_64 h77 W77.old c80 c78 c81 c79 hq68 hq76) 0 8 24 (by decide) (by rw [hml]; rfl) (lenOf pd7 rfl) [] rfl rfl 196 (hb hy at_193) rfl rfl rfl all0 (fun _ K => IW.keep K sf0 W77.inv) ?_
          intro v82 T82 h82 lo82 W82 K82 q82
          obtain rfl := q82.2.2
          show Gl _ _ _ _ _ _ _ _ [(.int 1)]
          refine o_staticC W82 (w54 hw) (w55 hw) (w2 hw) (w56 hw) (by decide) (rm194 l hw  h82 W82.old ) 0 8 24 (by decide) (by rw [hml]; rfl) (lenOf pd8 rfl) [] rfl rfl 199 (hb hy at_196) rfl rfl rfl all0 (fun _ K => IW.keep K sf0 W82.inv) ?_
          intro v83 T83 h83 lo83 W83 K83 q83
          obtain rfl := q83.2.2
          show Gl _ _ _ _ _ _ _ _ [(.int 1)]
          refine o_iload W83 201 (hb hy at_199) rfl rfl <| o_icmpN W83 204 (hb hy at_201) (XT.ii_ne_f (by decide)) rfl <| o_iconst W83 (v := 1) 205 (hb hy at_204) rfl rfl <| o_goto W83 209 (hb hy at_205) (by decide) rfl ?_
          exact o_retNW W83 (own_EL hw) hlk (t := .boolean) hret (by simp) (z' := (1 : Int32)) (by decide) (hb hy at_209) (by decide) (by decide) rfl
        · refine o_staticC W67 (w32 hw) (w33 hw) (w2 hw) (w34 hw) (by decide) (rm201 l hw r1_62 r1_64 h67 W67.old hq76) 0 8 24 (by decide) (by rw [hml]; rfl) (lenOf pd5 rfl) [] rfl rfl 144 (hb hy at_141) rfl rfl rfl all0 (fun _ K => IW.keep K sf0 W67.inv) ?_
          intro v84 T84 h84 lo84 W84 K84 q84
          obtain rfl := q84.2.2
          show Gl _ _ _ _ _ _ _ _ [(.int (-1 : Int32))]
          refine o_istore W84 (L' := #[vi p0, vi p1, vi p2, vi p3, vi p4, vi 1, vi 1, vi za, vi zb, vi r1_62, vi r1_63, vi r1_64, vi r1_65, vr r1_66, vr r1_67, vi (-1 : Int32)]) 146 (hb hy at_144) rfl rfl <| o_goto W84 189 (hb hy at_146) (by decide) rfl <| o_aload W84 191 (hb hy at_189) rfl rfl rfl <| o_aload W84 193 (hb hy at_191) rfl rfl rfl ?_
          have c85 := ((P66_2.keep K67).keep K84)
          have c86 := (P67_2.keep K84)
          have c87 := ((P66_1.keep K67).keep K84)
          have c88 := (P67_1.keep K84)
          refine o_staticC W84 (w35 hw) (w36 hw) (w37 hw) (w38 hw) (by decide) (rm203 l hw r1_66 r1_67 r1_62 r1_64 h84 W84.old c87 c85 c88 c86 hq68 hq76) 0 8 24 (by decide) (by rw [hml]; rfl) (lenOf pd7 rfl) [] rfl rfl 196 (hb hy at_193) rfl rfl rfl all0 (fun _ K => IW.keep K sf0 W84.inv) ?_
          intro v89 T89 h89 lo89 W89 K89 q89
          obtain rfl := q89.2.2
          show Gl _ _ _ _ _ _ _ _ [(.int (-1 : Int32))]
          refine o_staticC W89 (w54 hw) (w55 hw) (w2 hw) (w56 hw) (by decide) (rm69 l hw  h89 W89.old ) 0 8 24 (by decide) (by rw [hml]; rfl) (lenOf pd8 rfl) [] rfl rfl 199 (hb hy at_196) rfl rfl rfl all0 (fun _ K => IW.keep K sf0 W89.inv) ?_
          intro v90 T90 h90 lo90 W90 K90 q90
          obtain rfl := q90.2.2
          show Gl _ _ _ _ _ _ _ _ [(.int (-1 : Int32))]
          refine o_iload W90 201 (hb hy at_199) rfl rfl <| o_icmpN W90 204 (hb hy at_201) (XT.ii_ne_f (by decide)) rfl <| o_iconst W90 (v := 1) 205 (hb hy at_204) rfl rfl <| o_goto W90 209 (hb hy at_205) (by decide) rfl ?_
          exact o_retNW W90 (own_EL hw) hlk (t := .boolean) hret (by simp) (z' := (1 : Int32)) (by decide) (hb hy at_209) (by decide) (by decide) rfl
    · rw [ek48]
      refine o_iloadN W0 49 (hb hy at_48) rfl rfl <| o_iload W0 51 (hb hy at_49) rfl rfl <| o_iconst W0 (v := 1) 52 (hb hy at_51) rfl rfl <| o_icmpN W0 55 (hb hy at_52) (XT.ii_ne_f (by decide)) rfl <| o_iconst W0 (v := 1) 56 (hb hy at_55) rfl rfl <| o_goto W0 60 (hb hy at_56) (by decide) rfl ?_
      refine o_staticC W0 (w0 hw) (w1 hw) (w2 hw) (w3 hw) (by decide) (rm6 l hw p0 (1 : Int32) h0 W0.old ) 0 0 0 (by decide) (by rw [hml]; rfl) (lenOf pd0 rfl) [] rfl rfl 63 (hb hy at_60) rfl rfl rfl all0 (fun _ K => IW.keep K sf0 W0.inv) ?_
      intro v91 T91 h91 lo91 W91 K91 q91
      obtain ⟨r1_91, P91_0, P91_1, rfl⟩ := q91.2.2
      show Gl _ _ _ _ _ _ _ _ [(.int r1_91)]
      refine o_istore W91 (L' := #[vi p0, vi p1, vi p2, vi p3, vi p4, vi 1, vi 2, vi za, vi zb, vi r1_91, un, un, un, un, un, un]) 65 (hb hy at_63) rfl rfl <| o_iloadN W91 66 (hb hy at_65) rfl rfl <| o_iconst W91 (v := 1) 67 (hb hy at_66) rfl rfl ?_
      refine o_staticC W91 (w0 hw) (w1 hw) (w2 hw) (w3 hw) (by decide) (rm6 l hw p1 (1 : Int32) h91 W91.old ) 0 0 0 (by decide) (by rw [hml]; rfl) (lenOf pd0 rfl) [] rfl rfl 70 (hb hy at_67) rfl rfl rfl all0 (fun _ K => IW.keep K sf0 W91.inv) ?_
      intro v92 T92 h92 lo92 W92 K92 q92
      obtain ⟨r1_92, P92_0, P92_1, rfl⟩ := q92.2.2
      show Gl _ _ _ _ _ _ _ _ [(.int r1_92)]
      refine o_istore W92 (L' := #[vi p0, vi p1, vi p2, vi p3, vi p4, vi 1, vi 2, vi za, vi zb, vi r1_91, vi r1_92, un, un, un, un, un]) 72 (hb hy at_70) rfl rfl <| o_iload W92 74 (hb hy at_72) rfl rfl <| o_iload W92 76 (hb hy at_74) rfl rfl <| o_iconst W92 (v := 1) 77 (hb hy at_76) rfl rfl <| o_icmpY W92 84 (hb hy at_77) (XT.ii_ne_t (by decide)) (by decide) rfl <| o_iconst W92 (v := 0) 85 (hb hy at_84) rfl rfl ?_
      refine o_staticC W92 (w0 hw) (w1 hw) (w2 hw) (w3 hw) (by decide) (rm6 l hw za (0 : Int32) h92 W92.old ) 0 0 0 (by decide) (by rw [hml]; rfl) (lenOf pd0 rfl) [] rfl rfl 88 (hb hy at_85) rfl rfl rfl all0 (fun _ K => IW.keep K sf0 W92.inv) ?_
      intro v93 T93 h93 lo93 W93 K93 q93
      obtain ⟨r1_93, P93_0, P93_1, rfl⟩ := q93.2.2
      show Gl _ _ _ _ _ _ _ _ [(.int r1_93)]
      refine o_istore W93 (L' := #[vi p0, vi p1, vi p2, vi p3, vi p4, vi 1, vi 2, vi za, vi zb, vi r1_91, vi r1_92, vi r1_93, un, un, un, un]) 90 (hb hy at_88) rfl rfl <| o_iload W93 92 (hb hy at_90) rfl rfl <| o_iconst W93 (v := 1) 93 (hb hy at_92) rfl rfl ?_
      refine o_staticC W93 (w0 hw) (w1 hw) (w2 hw) (w3 hw) (by decide) (rm6 l hw zb (1 : Int32) h93 W93.old ) 0 0 0 (by decide) (by rw [hml]; rfl) (lenOf pd0 rfl) [] rfl rfl 96 (hb hy at_93) rfl rfl rfl all0 (fun _ K => IW.keep K sf0 W93.inv) ?_
      intro v94 T94 h94 lo94 W94 K94 q94
      obtain ⟨r1_94, P94_0, P94_1, rfl⟩ := q94.2.2
      show Gl _ _ _ _ _ _ _ _ [(.int r1_94)]
      refine o_istore W94 (L' := #[vi p0, vi p1, vi p2, vi p3, vi p4, vi 1, vi 2, vi za, vi zb, vi r1_91, vi r1_92, vi r1_93, vi r1_94, un, un, un]) 98 (hb hy at_96) rfl rfl <| o_iload W94 100 (hb hy at_98) rfl rfl <| o_iload W94 102 (hb hy at_100) rfl rfl <| o_iload W94 104 (hb hy at_102) rfl rfl ?_
      refine o_staticC W94 (w7 hw) (w8 hw) (w2 hw) (w9 hw) (by decide) (rm65 l hw gCS gF r1_91 r1_92 h94 W94.old P91_0 SgCS NgCS SgF NgF z0 z1 z2) 0 4 12 (by decide) (by rw [hml]; rfl) (lenOf pd4 rfl) [] rfl rfl 107 (hb hy at_104) rfl rfl rfl all0 (fun _ K => IW.keep K sf0 W94.inv) ?_
      intro v95 T95 h95 lo95 W95 K95 q95
      obtain ⟨r1_95, P95_0, P95_1, P95_2, rfl⟩ := q95.2.2
      show Gl _ _ _ _ _ _ _ _ [(.ref r1_95)]
      refine o_astore W95 (L' := #[vi p0, vi p1, vi p2, vi p3, vi p4, vi 1, vi 2, vi za, vi zb, vi r1_91, vi r1_92, vi r1_93, vi r1_94, vr r1_95, un, un]) 109 (hb hy at_107) rfl rfl rfl <| o_iload W95 111 (hb hy at_109) rfl rfl <| o_iload W95 113 (hb hy at_111) rfl rfl <| o_iload W95 115 (hb hy at_113) rfl rfl ?_
      refine o_staticC W95 (w7 hw) (w8 hw) (w2 hw) (w9 hw) (by decide) (rm188 l hw gCS gF r1_93 r1_94 h95 W95.old P93_0 P94_0 SgCS NgCS SgF NgF z0 z1 z2 (P93_1 rfl)) 0 8 32 (by decide) (by rw [hml]; rfl) (lenOf pd4 rfl) [] rfl rfl 118 (hb hy at_115) rfl rfl rfl all0 (fun _ K => IW.keep K sf0 W95.inv) ?_
      intro v96 T96 h96 lo96 W96 K96 q96
      obtain ⟨r1_96, P96_0, P96_1, P96_2, rfl⟩ := q96.2.2
      show Gl _ _ _ _ _ _ _ _ [(.ref r1_96)]
      refine o_astore W96 (L' := #[vi p0, vi p1, vi p2, vi p3, vi p4, vi 1, vi 2, vi za, vi zb, vi r1_91, vi r1_92, vi r1_93, vi r1_94, vr r1_95, vr r1_96, un]) 120 (hb hy at_118) rfl rfl rfl <| o_iload W96 122 (hb hy at_120) rfl rfl <| o_ifN W96 125 (hb hy at_122) (XT.i0_le_f (by decide)) rfl <| o_iload W96 127 (hb hy at_125) rfl rfl <| o_ifN W96 130 (hb hy at_127) (XT.i0_le_f (by decide)) rfl <| o_iload W96 132 (hb hy at_130) rfl rfl ?_
      refine o_iload W96 134 (hb hy at_132) rfl rfl ?_
      by_cases hq97 : r1_91 = r1_93
      · refine o_icmpY W96 149 (hb hy at_134) (XT.ii_eq_t hq97) (by decide) rfl <| o_iload W96 151 (hb hy at_149) rfl rfl <| o_iconst W96 (v := 1) 152 (hb hy at_151) rfl rfl <| o_icmpY W96 180 (hb hy at_152) (XT.ii_le_t (by decide)) (by decide) rfl <| o_iload W96 182 (hb hy at_180) rfl rfl <| o_iload W96 184 (hb hy at_182) rfl rfl ?_
        refine o_staticC W96 (w32 hw) (w33 hw) (w2 hw) (w34 hw) (by decide) (rm204 l hw  h96 W96.old ) 0 8 32 (by decide) (by rw [hml]; rfl) (lenOf pd5 rfl) [] rfl rfl 187 (hb hy at_184) rfl rfl rfl all0 (fun _ K => IW.keep K sf0 W96.inv) ?_
        intro v98 T98 h98 lo98 W98 K98 q98
        obtain rfl := q98.2.2
        show Gl _ _ _ _ _ _ _ _ [(.int (-1 : Int32))]
        refine o_istore W98 (L' := #[vi p0, vi p1, vi p2, vi p3, vi p4, vi 1, vi 2, vi za, vi zb, vi r1_91, vi r1_92, vi r1_93, vi r1_94, vr r1_95, vr r1_96, vi (-1 : Int32)]) 189 (hb hy at_187) rfl rfl <| o_aload W98 191 (hb hy at_189) rfl rfl rfl <| o_aload W98 193 (hb hy at_191) rfl rfl rfl ?_
        have c99 := ((P95_2.keep K96).keep K98)
        have c100 := (P96_2.keep K98)
        have c101 := ((P95_1.keep K96).keep K98)
        have c102 := (P96_1.keep K98)
        refine o_staticC W98 (w35 hw) (w36 hw) (w37 hw) (w38 hw) (by decide) (rm205 l hw r1_95 r1_96 r1_91 r1_93 r1_94 h98 W98.old c101 c99 c102 c100 hq97) 0 8 32 (by decide) (by rw [hml]; rfl) (lenOf pd7 rfl) [] rfl rfl 196 (hb hy at_193) rfl rfl rfl all0 (fun _ K => IW.keep K sf0 W98.inv) ?_
        intro v103 T103 h103 lo103 W103 K103 q103
        obtain rfl := q103.2.2
        show Gl _ _ _ _ _ _ _ _ [(.int (-1 : Int32))]
        refine o_staticC W103 (w54 hw) (w55 hw) (w2 hw) (w56 hw) (by decide) (rm69 l hw  h103 W103.old ) 0 8 32 (by decide) (by rw [hml]; rfl) (lenOf pd8 rfl) [] rfl rfl 199 (hb hy at_196) rfl rfl rfl all0 (fun _ K => IW.keep K sf0 W103.inv) ?_
        intro v104 T104 h104 lo104 W104 K104 q104
        obtain rfl := q104.2.2
        show Gl _ _ _ _ _ _ _ _ [(.int (-1 : Int32))]
        refine o_iload W104 201 (hb hy at_199) rfl rfl <| o_icmpN W104 204 (hb hy at_201) (XT.ii_ne_f (by decide)) rfl <| o_iconst W104 (v := 1) 205 (hb hy at_204) rfl rfl <| o_goto W104 209 (hb hy at_205) (by decide) rfl ?_
        exact o_retNW W104 (own_EL hw) hlk (t := .boolean) hret (by simp) (z' := (1 : Int32)) (by decide) (hb hy at_209) (by decide) (by decide) rfl
      · refine o_icmpN W96 137 (hb hy at_134) (XT.ii_eq_f hq97) rfl <| o_iload W96 139 (hb hy at_137) rfl rfl <| o_iload W96 141 (hb hy at_139) rfl rfl ?_
        rcases (Classical.em (r1_91 < r1_93)).symm with hq105 | hq105
        · refine o_staticC W96 (w32 hw) (w33 hw) (w2 hw) (w34 hw) (by decide) (rm198 l hw r1_91 r1_93 h96 W96.old hq105 (own_tri hq105 hq97)) 0 8 32 (by decide) (by rw [hml]; rfl) (lenOf pd5 rfl) [] rfl rfl 144 (hb hy at_141) rfl rfl rfl all0 (fun _ K => IW.keep K sf0 W96.inv) ?_
          intro v106 T106 h106 lo106 W106 K106 q106
          obtain rfl := q106.2.2
          show Gl _ _ _ _ _ _ _ _ [(.int 1)]
          refine o_istore W106 (L' := #[vi p0, vi p1, vi p2, vi p3, vi p4, vi 1, vi 2, vi za, vi zb, vi r1_91, vi r1_92, vi r1_93, vi r1_94, vr r1_95, vr r1_96, vi 1]) 146 (hb hy at_144) rfl rfl <| o_goto W106 189 (hb hy at_146) (by decide) rfl <| o_aload W106 191 (hb hy at_189) rfl rfl rfl <| o_aload W106 193 (hb hy at_191) rfl rfl rfl ?_
          have c107 := ((P95_2.keep K96).keep K106)
          have c108 := (P96_2.keep K106)
          have c109 := ((P95_1.keep K96).keep K106)
          have c110 := (P96_1.keep K106)
          refine o_staticC W106 (w35 hw) (w36 hw) (w37 hw) (w38 hw) (by decide) (rm206 l hw r1_95 r1_96 r1_91 r1_93 r1_94 h106 W106.old c109 c107 c110 c108 hq97 hq105) 0 8 32 (by decide) (by rw [hml]; rfl) (lenOf pd7 rfl) [] rfl rfl 196 (hb hy at_193) rfl rfl rfl all0 (fun _ K => IW.keep K sf0 W106.inv) ?_
          intro v111 T111 h111 lo111 W111 K111 q111
          obtain rfl := q111.2.2
          show Gl _ _ _ _ _ _ _ _ [(.int 1)]
          refine o_staticC W111 (w54 hw) (w55 hw) (w2 hw) (w56 hw) (by decide) (rm194 l hw  h111 W111.old ) 0 8 32 (by decide) (by rw [hml]; rfl) (lenOf pd8 rfl) [] rfl rfl 199 (hb hy at_196) rfl rfl rfl all0 (fun _ K => IW.keep K sf0 W111.inv) ?_
          intro v112 T112 h112 lo112 W112 K112 q112
          obtain rfl := q112.2.2
          show Gl _ _ _ _ _ _ _ _ [(.int 1)]
          refine o_iload W112 201 (hb hy at_199) rfl rfl <| o_icmpN W112 204 (hb hy at_201) (XT.ii_ne_f (by decide)) rfl <| o_iconst W112 (v := 1) 205 (hb hy at_204) rfl rfl <| o_goto W112 209 (hb hy at_205) (by decide) rfl ?_
          exact o_retNW W112 (own_EL hw) hlk (t := .boolean) hret (by simp) (z' := (1 : Int32)) (by decide) (hb hy at_209) (by decide) (by decide) rfl
        · refine o_staticC W96 (w32 hw) (w33 hw) (w2 hw) (w34 hw) (by decide) (rm201 l hw r1_91 r1_93 h96 W96.old hq105) 0 8 32 (by decide) (by rw [hml]; rfl) (lenOf pd5 rfl) [] rfl rfl 144 (hb hy at_141) rfl rfl rfl all0 (fun _ K => IW.keep K sf0 W96.inv) ?_
          intro v113 T113 h113 lo113 W113 K113 q113
          obtain rfl := q113.2.2
          show Gl _ _ _ _ _ _ _ _ [(.int (-1 : Int32))]
          refine o_istore W113 (L' := #[vi p0, vi p1, vi p2, vi p3, vi p4, vi 1, vi 2, vi za, vi zb, vi r1_91, vi r1_92, vi r1_93, vi r1_94, vr r1_95, vr r1_96, vi (-1 : Int32)]) 146 (hb hy at_144) rfl rfl <| o_goto W113 189 (hb hy at_146) (by decide) rfl <| o_aload W113 191 (hb hy at_189) rfl rfl rfl <| o_aload W113 193 (hb hy at_191) rfl rfl rfl ?_
          have c114 := ((P95_2.keep K96).keep K113)
          have c115 := (P96_2.keep K113)
          have c116 := ((P95_1.keep K96).keep K113)
          have c117 := (P96_1.keep K113)
          refine o_staticC W113 (w35 hw) (w36 hw) (w37 hw) (w38 hw) (by decide) (rm207 l hw r1_95 r1_96 r1_91 r1_93 r1_94 h113 W113.old c116 c114 c117 c115 hq97 hq105) 0 8 32 (by decide) (by rw [hml]; rfl) (lenOf pd7 rfl) [] rfl rfl 196 (hb hy at_193) rfl rfl rfl all0 (fun _ K => IW.keep K sf0 W113.inv) ?_
          intro v118 T118 h118 lo118 W118 K118 q118
          obtain rfl := q118.2.2
          show Gl _ _ _ _ _ _ _ _ [(.int (-1 : Int32))]
          refine o_staticC W118 (w54 hw) (w55 hw) (w2 hw) (w56 hw) (by decide) (rm69 l hw  h118 W118.old ) 0 8 32 (by decide) (by rw [hml]; rfl) (lenOf pd8 rfl) [] rfl rfl 199 (hb hy at_196) rfl rfl rfl all0 (fun _ K => IW.keep K sf0 W118.inv) ?_
          intro v119 T119 h119 lo119 W119 K119 q119
          obtain rfl := q119.2.2
          show Gl _ _ _ _ _ _ _ _ [(.int (-1 : Int32))]
          refine o_iload W119 201 (hb hy at_199) rfl rfl <| o_icmpN W119 204 (hb hy at_201) (XT.ii_ne_f (by decide)) rfl <| o_iconst W119 (v := 1) 205 (hb hy at_204) rfl rfl <| o_goto W119 209 (hb hy at_205) (by decide) rfl ?_
          exact o_retNW W119 (own_EL hw) hlk (t := .boolean) hret (by simp) (z' := (1 : Int32)) (by decide) (hb hy at_209) (by decide) (by decide) rfl
  · rw [ek7]
    rcases own_and33 ((p4.toUInt32 >>> ((2 : Int32) &&& 31).toUInt32).toInt32) with ek120 | ek120 | ek120
    · rw [ek120]
      refine o_iloadN W0 49 (hb hy at_48) rfl rfl <| o_iload W0 51 (hb hy at_49) rfl rfl <| o_iconst W0 (v := 1) 52 (hb hy at_51) rfl rfl <| o_icmpY W0 59 (hb hy at_52) (XT.ii_ne_t (by decide)) (by decide) rfl <| o_iconst W0 (v := 0) 60 (hb hy at_59) rfl rfl ?_
      refine o_staticC W0 (w0 hw) (w1 hw) (w2 hw) (w3 hw) (by decide) (rm6 l hw p0 (0 : Int32) h0 W0.old ) 0 0 0 (by decide) (by rw [hml]; rfl) (lenOf pd0 rfl) [] rfl rfl 63 (hb hy at_60) rfl rfl rfl all0 (fun _ K => IW.keep K sf0 W0.inv) ?_
      intro v121 T121 h121 lo121 W121 K121 q121
      obtain ⟨r1_121, P121_0, P121_1, rfl⟩ := q121.2.2
      show Gl _ _ _ _ _ _ _ _ [(.int r1_121)]
      refine o_istore W121 (L' := #[vi p0, vi p1, vi p2, vi p3, vi p4, vi 2, vi 0, vi za, vi zb, vi r1_121, un, un, un, un, un, un]) 65 (hb hy at_63) rfl rfl <| o_iloadN W121 66 (hb hy at_65) rfl rfl <| o_iconst W121 (v := 1) 67 (hb hy at_66) rfl rfl ?_
      refine o_staticC W121 (w0 hw) (w1 hw) (w2 hw) (w3 hw) (by decide) (rm6 l hw p1 (1 : Int32) h121 W121.old ) 0 0 0 (by decide) (by rw [hml]; rfl) (lenOf pd0 rfl) [] rfl rfl 70 (hb hy at_67) rfl rfl rfl all0 (fun _ K => IW.keep K sf0 W121.inv) ?_
      intro v122 T122 h122 lo122 W122 K122 q122
      obtain ⟨r1_122, P122_0, P122_1, rfl⟩ := q122.2.2
      show Gl _ _ _ _ _ _ _ _ [(.int r1_122)]
      refine o_istore W122 (L' := #[vi p0, vi p1, vi p2, vi p3, vi p4, vi 2, vi 0, vi za, vi zb, vi r1_121, vi r1_122, un, un, un, un, un]) 72 (hb hy at_70) rfl rfl <| o_iload W122 74 (hb hy at_72) rfl rfl <| o_iload W122 76 (hb hy at_74) rfl rfl <| o_iconst W122 (v := 1) 77 (hb hy at_76) rfl rfl <| o_icmpY W122 84 (hb hy at_77) (XT.ii_ne_t (by decide)) (by decide) rfl <| o_iconst W122 (v := 0) 85 (hb hy at_84) rfl rfl ?_
      refine o_staticC W122 (w0 hw) (w1 hw) (w2 hw) (w3 hw) (by decide) (rm6 l hw za (0 : Int32) h122 W122.old ) 0 0 0 (by decide) (by rw [hml]; rfl) (lenOf pd0 rfl) [] rfl rfl 88 (hb hy at_85) rfl rfl rfl all0 (fun _ K => IW.keep K sf0 W122.inv) ?_
      intro v123 T123 h123 lo123 W123 K123 q123
      obtain ⟨r1_123, P123_0, P123_1, rfl⟩ := q123.2.2
      show Gl _ _ _ _ _ _ _ _ [(.int r1_123)]
      refine o_istore W123 (L' := #[vi p0, vi p1, vi p2, vi p3, vi p4, vi 2, vi 0, vi za, vi zb, vi r1_121, vi r1_122, vi r1_123, un, un, un, un]) 90 (hb hy at_88) rfl rfl <| o_iload W123 92 (hb hy at_90) rfl rfl <| o_iconst W123 (v := 1) 93 (hb hy at_92) rfl rfl ?_
      refine o_staticC W123 (w0 hw) (w1 hw) (w2 hw) (w3 hw) (by decide) (rm6 l hw zb (1 : Int32) h123 W123.old ) 0 0 0 (by decide) (by rw [hml]; rfl) (lenOf pd0 rfl) [] rfl rfl 96 (hb hy at_93) rfl rfl rfl all0 (fun _ K => IW.keep K sf0 W123.inv) ?_
      intro v124 T124 h124 lo124 W124 K124 q124
      obtain ⟨r1_124, P124_0, P124_1, rfl⟩ := q124.2.2
      show Gl _ _ _ _ _ _ _ _ [(.int r1_124)]
      refine o_istore W124 (L' := #[vi p0, vi p1, vi p2, vi p3, vi p4, vi 2, vi 0, vi za, vi zb, vi r1_121, vi r1_122, vi r1_123, vi r1_124, un, un, un]) 98 (hb hy at_96) rfl rfl <| o_iload W124 100 (hb hy at_98) rfl rfl <| o_iload W124 102 (hb hy at_100) rfl rfl <| o_iload W124 104 (hb hy at_102) rfl rfl ?_
      refine o_staticC W124 (w7 hw) (w8 hw) (w2 hw) (w9 hw) (by decide) (rm188 l hw gCS gF r1_121 r1_122 h124 W124.old P121_0 P122_0 SgCS NgCS SgF NgF z0 z1 z2 (P121_1 rfl)) 0 4 20 (by decide) (by rw [hml]; rfl) (lenOf pd4 rfl) [] rfl rfl 107 (hb hy at_104) rfl rfl rfl all0 (fun _ K => IW.keep K sf0 W124.inv) ?_
      intro v125 T125 h125 lo125 W125 K125 q125
      obtain ⟨r1_125, P125_0, P125_1, P125_2, rfl⟩ := q125.2.2
      show Gl _ _ _ _ _ _ _ _ [(.ref r1_125)]
      refine o_astore W125 (L' := #[vi p0, vi p1, vi p2, vi p3, vi p4, vi 2, vi 0, vi za, vi zb, vi r1_121, vi r1_122, vi r1_123, vi r1_124, vr r1_125, un, un]) 109 (hb hy at_107) rfl rfl rfl <| o_iload W125 111 (hb hy at_109) rfl rfl <| o_iload W125 113 (hb hy at_111) rfl rfl <| o_iload W125 115 (hb hy at_113) rfl rfl ?_
      refine o_staticW W125 (y := mn11) (w7 hw) (w8 hw) (w2 hw) (w9 hw) (by decide) (argsL := [iZ, (.int r1_123), (.int r1_124)]) (CtrW.back (Wd := 0) W125 (rm11 l hw gCS r1_123 r1_124 h125 W125.old SgCS NgCS) (w9 hw) (w2 hw) (by decide) (by decide) (own_EL hw)) (by rw [hml]; rfl) (lenOf pd4 rfl) (S := []) rfl (by exact Nat.le_of_eq rfl) 118 (hb hy at_115) rfl (cells' := 10) (slots' := 32) rfl rfl (by decide) (by decide) (wy := []) qf all0  ?_
      intro v126 T126 h126 V126 lo126 W126 K126 C126 q126
      obtain ⟨r1_126, P126_0, P126_1, P126_2, rfl⟩ := q126.2.2
      show Gl _ _ _ _ _ _ _ _ [(.ref r1_126)]
      refine o_astore W126 (L' := #[vi p0, vi p1, vi p2, vi p3, vi p4, vi 2, vi 0, vi za, vi zb, vi r1_121, vi r1_122, vi r1_123, vi r1_124, vr r1_125, vr r1_126, un]) 120 (hb hy at_118) rfl rfl rfl <| o_iload W126 122 (hb hy at_120) rfl rfl <| o_ifN W126 125 (hb hy at_122) (XT.i0_le_f (by decide)) rfl <| o_iload W126 127 (hb hy at_125) rfl rfl <| o_ifY W126 149 (hb hy at_127) (XT.i0_le_t (by decide)) (by decide) rfl <| o_iload W126 151 (hb hy at_149) rfl rfl ?_
      refine o_iconst W126 (v := 1) 152 (hb hy at_151) rfl rfl <| o_icmpN W126 155 (hb hy at_152) (XT.ii_le_f (by decide)) rfl <| o_iload W126 157 (hb hy at_155) rfl rfl <| o_iconst W126 (v := 1) 158 (hb hy at_157) rfl rfl <| o_icmpY W126 180 (hb hy at_158) (XT.ii_le_t (by decide)) (by decide) rfl <| o_iload W126 182 (hb hy at_180) rfl rfl ?_
      refine o_iload W126 184 (hb hy at_182) rfl rfl ?_
      refine o_staticC W126 (w32 hw) (w33 hw) (w2 hw) (w34 hw) (by decide) (rm208 l hw  h126 W126.old ) 0 10 32 (by decide) (by rw [hml]; rfl) (lenOf pd5 rfl) [] rfl rfl 187 (hb hy at_184) rfl rfl rfl all0 (fun _ K => IW.keep K sf0 W126.inv) ?_
      intro v127 T127 h127 lo127 W127 K127 q127
      obtain rfl := q127.2.2
      show Gl _ _ _ _ _ _ _ _ [(.int 1)]
      refine o_istore W127 (L' := #[vi p0, vi p1, vi p2, vi p3, vi p4, vi 2, vi 0, vi za, vi zb, vi r1_121, vi r1_122, vi r1_123, vi r1_124, vr r1_125, vr r1_126, vi 1]) 189 (hb hy at_187) rfl rfl <| o_aload W127 191 (hb hy at_189) rfl rfl rfl <| o_aload W127 193 (hb hy at_191) rfl rfl rfl ?_
      have c128 := ((P125_2.keep K126).keep K127)
      have c129 := (P126_2.keep K127)
      have c130 := ((P125_1.keep K126).keep K127)
      have c131 := (P126_1.keep K127)
      refine o_staticC W127 (w35 hw) (w36 hw) (w37 hw) (w38 hw) (by decide) (rm209 l hw r1_125 r1_126 r1_121 r1_122 h127 W127.old c130 c128 c131 c129) 0 10 32 (by decide) (by rw [hml]; rfl) (lenOf pd7 rfl) [] rfl rfl 196 (hb hy at_193) rfl rfl rfl all0 (fun _ K => IW.keep K sf0 W127.inv) ?_
      intro v132 T132 h132 lo132 W132 K132 q132
      obtain rfl := q132.2.2
      show Gl _ _ _ _ _ _ _ _ [(.int 1)]
      refine o_staticC W132 (w54 hw) (w55 hw) (w2 hw) (w56 hw) (by decide) (rm194 l hw  h132 W132.old ) 0 10 32 (by decide) (by rw [hml]; rfl) (lenOf pd8 rfl) [] rfl rfl 199 (hb hy at_196) rfl rfl rfl all0 (fun _ K => IW.keep K sf0 W132.inv) ?_
      intro v133 T133 h133 lo133 W133 K133 q133
      obtain rfl := q133.2.2
      show Gl _ _ _ _ _ _ _ _ [(.int 1)]
      refine o_iload W133 201 (hb hy at_199) rfl rfl <| o_icmpN W133 204 (hb hy at_201) (XT.ii_ne_f (by decide)) rfl <| o_iconst W133 (v := 1) 205 (hb hy at_204) rfl rfl <| o_goto W133 209 (hb hy at_205) (by decide) rfl ?_
      exact o_retNW W133 (own_EL hw) hlk (t := .boolean) hret (by simp) (z' := (1 : Int32)) (by decide) (hb hy at_209) (by decide) (by decide) rfl
    · rw [ek120]
      refine o_iloadN W0 49 (hb hy at_48) rfl rfl <| o_iload W0 51 (hb hy at_49) rfl rfl <| o_iconst W0 (v := 1) 52 (hb hy at_51) rfl rfl <| o_icmpY W0 59 (hb hy at_52) (XT.ii_ne_t (by decide)) (by decide) rfl <| o_iconst W0 (v := 0) 60 (hb hy at_59) rfl rfl ?_
      refine o_staticC W0 (w0 hw) (w1 hw) (w2 hw) (w3 hw) (by decide) (rm6 l hw p0 (0 : Int32) h0 W0.old ) 0 0 0 (by decide) (by rw [hml]; rfl) (lenOf pd0 rfl) [] rfl rfl 63 (hb hy at_60) rfl rfl rfl all0 (fun _ K => IW.keep K sf0 W0.inv) ?_
      intro v134 T134 h134 lo134 W134 K134 q134
      obtain ⟨r1_134, P134_0, P134_1, rfl⟩ := q134.2.2
      show Gl _ _ _ _ _ _ _ _ [(.int r1_134)]
      refine o_istore W134 (L' := #[vi p0, vi p1, vi p2, vi p3, vi p4, vi 2, vi 1, vi za, vi zb, vi r1_134, un, un, un, un, un, un]) 65 (hb hy at_63) rfl rfl <| o_iloadN W134 66 (hb hy at_65) rfl rfl <| o_iconst W134 (v := 1) 67 (hb hy at_66) rfl rfl ?_
      refine o_staticC W134 (w0 hw) (w1 hw) (w2 hw) (w3 hw) (by decide) (rm6 l hw p1 (1 : Int32) h134 W134.old ) 0 0 0 (by decide) (by rw [hml]; rfl) (lenOf pd0 rfl) [] rfl rfl 70 (hb hy at_67) rfl rfl rfl all0 (fun _ K => IW.keep K sf0 W134.inv) ?_
      intro v135 T135 h135 lo135 W135 K135 q135
      obtain ⟨r1_135, P135_0, P135_1, rfl⟩ := q135.2.2
      show Gl _ _ _ _ _ _ _ _ [(.int r1_135)]
      refine o_istore W135 (L' := #[vi p0, vi p1, vi p2, vi p3, vi p4, vi 2, vi 1, vi za, vi zb, vi r1_134, vi r1_135, un, un, un, un, un]) 72 (hb hy at_70) rfl rfl <| o_iload W135 74 (hb hy at_72) rfl rfl <| o_iload W135 76 (hb hy at_74) rfl rfl <| o_iconst W135 (v := 1) 77 (hb hy at_76) rfl rfl <| o_icmpN W135 80 (hb hy at_77) (XT.ii_ne_f (by decide)) rfl <| o_iconst W135 (v := 1) 81 (hb hy at_80) rfl rfl ?_
      refine o_goto W135 85 (hb hy at_81) (by decide) rfl ?_
      refine o_staticC W135 (w0 hw) (w1 hw) (w2 hw) (w3 hw) (by decide) (rm6 l hw za (1 : Int32) h135 W135.old ) 0 0 0 (by decide) (by rw [hml]; rfl) (lenOf pd0 rfl) [] rfl rfl 88 (hb hy at_85) rfl rfl rfl all0 (fun _ K => IW.keep K sf0 W135.inv) ?_
      intro v136 T136 h136 lo136 W136 K136 q136
      obtain ⟨r1_136, P136_0, P136_1, rfl⟩ := q136.2.2
      show Gl _ _ _ _ _ _ _ _ [(.int r1_136)]
      refine o_istore W136 (L' := #[vi p0, vi p1, vi p2, vi p3, vi p4, vi 2, vi 1, vi za, vi zb, vi r1_134, vi r1_135, vi r1_136, un, un, un, un]) 90 (hb hy at_88) rfl rfl <| o_iload W136 92 (hb hy at_90) rfl rfl <| o_iconst W136 (v := 1) 93 (hb hy at_92) rfl rfl ?_
      refine o_staticC W136 (w0 hw) (w1 hw) (w2 hw) (w3 hw) (by decide) (rm6 l hw zb (1 : Int32) h136 W136.old ) 0 0 0 (by decide) (by rw [hml]; rfl) (lenOf pd0 rfl) [] rfl rfl 96 (hb hy at_93) rfl rfl rfl all0 (fun _ K => IW.keep K sf0 W136.inv) ?_
      intro v137 T137 h137 lo137 W137 K137 q137
      obtain ⟨r1_137, P137_0, P137_1, rfl⟩ := q137.2.2
      show Gl _ _ _ _ _ _ _ _ [(.int r1_137)]
      refine o_istore W137 (L' := #[vi p0, vi p1, vi p2, vi p3, vi p4, vi 2, vi 1, vi za, vi zb, vi r1_134, vi r1_135, vi r1_136, vi r1_137, un, un, un]) 98 (hb hy at_96) rfl rfl <| o_iload W137 100 (hb hy at_98) rfl rfl <| o_iload W137 102 (hb hy at_100) rfl rfl <| o_iload W137 104 (hb hy at_102) rfl rfl ?_
      refine o_staticC W137 (w7 hw) (w8 hw) (w2 hw) (w9 hw) (by decide) (rm188 l hw gCS gF r1_134 r1_135 h137 W137.old P134_0 P135_0 SgCS NgCS SgF NgF z0 z1 z2 (P134_1 rfl)) 0 4 20 (by decide) (by rw [hml]; rfl) (lenOf pd4 rfl) [] rfl rfl 107 (hb hy at_104) rfl rfl rfl all0 (fun _ K => IW.keep K sf0 W137.inv) ?_
      intro v138 T138 h138 lo138 W138 K138 q138
      obtain ⟨r1_138, P138_0, P138_1, P138_2, rfl⟩ := q138.2.2
      show Gl _ _ _ _ _ _ _ _ [(.ref r1_138)]
      refine o_astore W138 (L' := #[vi p0, vi p1, vi p2, vi p3, vi p4, vi 2, vi 1, vi za, vi zb, vi r1_134, vi r1_135, vi r1_136, vi r1_137, vr r1_138, un, un]) 109 (hb hy at_107) rfl rfl rfl <| o_iload W138 111 (hb hy at_109) rfl rfl <| o_iload W138 113 (hb hy at_111) rfl rfl <| o_iload W138 115 (hb hy at_113) rfl rfl ?_
      refine o_staticC W138 (w7 hw) (w8 hw) (w2 hw) (w9 hw) (by decide) (rm65 l hw gCS gF r1_136 r1_137 h138 W138.old P136_0 SgCS NgCS SgF NgF z0 z1 z2) 0 8 32 (by decide) (by rw [hml]; rfl) (lenOf pd4 rfl) [] rfl rfl 118 (hb hy at_115) rfl rfl rfl all0 (fun _ K => IW.keep K sf0 W138.inv) ?_
      intro v139 T139 h139 lo139 W139 K139 q139
      obtain ⟨r1_139, P139_0, P139_1, P139_2, rfl⟩ := q139.2.2
      show Gl _ _ _ _ _ _ _ _ [(.ref r1_139)]
      refine o_astore W139 (L' := #[vi p0, vi p1, vi p2, vi p3, vi p4, vi 2, vi 1, vi za, vi zb, vi r1_134, vi r1_135, vi r1_136, vi r1_137, vr r1_138, vr r1_139, un]) 120 (hb hy at_118) rfl rfl rfl <| o_iload W139 122 (hb hy at_120) rfl rfl <| o_ifN W139 125 (hb hy at_122) (XT.i0_le_f (by decide)) rfl <| o_iload W139 127 (hb hy at_125) rfl rfl <| o_ifN W139 130 (hb hy at_127) (XT.i0_le_f (by decide)) rfl <| o_iload W139 132 (hb hy at_130) rfl rfl ?_
      refine o_iload W139 134 (hb hy at_132) rfl rfl ?_
      by_cases hq140 : r1_134 = r1_136
      · refine o_icmpY W139 149 (hb hy at_134) (XT.ii_eq_t hq140) (by decide) rfl <| o_iload W139 151 (hb hy at_149) rfl rfl <| o_iconst W139 (v := 1) 152 (hb hy at_151) rfl rfl <| o_icmpN W139 155 (hb hy at_152) (XT.ii_le_f (by decide)) rfl <| o_iload W139 157 (hb hy at_155) rfl rfl <| o_iconst W139 (v := 1) 158 (hb hy at_157) rfl rfl ?_
        refine o_icmpY W139 180 (hb hy at_158) (XT.ii_le_t (by decide)) (by decide) rfl <| o_iload W139 182 (hb hy at_180) rfl rfl <| o_iload W139 184 (hb hy at_182) rfl rfl ?_
        refine o_staticC W139 (w32 hw) (w33 hw) (w2 hw) (w34 hw) (by decide) (rm210 l hw  h139 W139.old ) 0 8 32 (by decide) (by rw [hml]; rfl) (lenOf pd5 rfl) [] rfl rfl 187 (hb hy at_184) rfl rfl rfl all0 (fun _ K => IW.keep K sf0 W139.inv) ?_
        intro v141 T141 h141 lo141 W141 K141 q141
        obtain rfl := q141.2.2
        show Gl _ _ _ _ _ _ _ _ [(.int 1)]
        refine o_istore W141 (L' := #[vi p0, vi p1, vi p2, vi p3, vi p4, vi 2, vi 1, vi za, vi zb, vi r1_134, vi r1_135, vi r1_136, vi r1_137, vr r1_138, vr r1_139, vi 1]) 189 (hb hy at_187) rfl rfl <| o_aload W141 191 (hb hy at_189) rfl rfl rfl <| o_aload W141 193 (hb hy at_191) rfl rfl rfl ?_
        have c142 := ((P138_2.keep K139).keep K141)
        have c143 := (P139_2.keep K141)
        have c144 := ((P138_1.keep K139).keep K141)
        have c145 := (P139_1.keep K141)
        refine o_staticC W141 (w35 hw) (w36 hw) (w37 hw) (w38 hw) (by decide) (rm211 l hw r1_138 r1_139 r1_134 r1_135 r1_136 h141 W141.old c144 c142 c145 c143 hq140) 0 8 32 (by decide) (by rw [hml]; rfl) (lenOf pd7 rfl) [] rfl rfl 196 (hb hy at_193) rfl rfl rfl all0 (fun _ K => IW.keep K sf0 W141.inv) ?_
        intro v146 T146 h146 lo146 W146 K146 q146
        obtain rfl := q146.2.2
        show Gl _ _ _ _ _ _ _ _ [(.int 1)]
        refine o_staticC W146 (w54 hw) (w55 hw) (w2 hw) (w56 hw) (by decide) (rm194 l hw  h146 W146.old ) 0 8 32 (by decide) (by rw [hml]; rfl) (lenOf pd8 rfl) [] rfl rfl 199 (hb hy at_196) rfl rfl rfl all0 (fun _ K => IW.keep K sf0 W146.inv) ?_
        intro v147 T147 h147 lo147 W147 K147 q147
        obtain rfl := q147.2.2
        show Gl _ _ _ _ _ _ _ _ [(.int 1)]
        refine o_iload W147 201 (hb hy at_199) rfl rfl <| o_icmpN W147 204 (hb hy at_201) (XT.ii_ne_f (by decide)) rfl <| o_iconst W147 (v := 1) 205 (hb hy at_204) rfl rfl <| o_goto W147 209 (hb hy at_205) (by decide) rfl ?_
        exact o_retNW W147 (own_EL hw) hlk (t := .boolean) hret (by simp) (z' := (1 : Int32)) (by decide) (hb hy at_209) (by decide) (by decide) rfl
      · refine o_icmpN W139 137 (hb hy at_134) (XT.ii_eq_f hq140) rfl <| o_iload W139 139 (hb hy at_137) rfl rfl <| o_iload W139 141 (hb hy at_139) rfl rfl ?_
        rcases (Classical.em (r1_134 < r1_136)).symm with hq148 | hq148
        · refine o_staticC W139 (w32 hw) (w33 hw) (w2 hw) (w34 hw) (by decide) (rm198 l hw r1_134 r1_136 h139 W139.old hq148 (own_tri hq148 hq140)) 0 8 32 (by decide) (by rw [hml]; rfl) (lenOf pd5 rfl) [] rfl rfl 144 (hb hy at_141) rfl rfl rfl all0 (fun _ K => IW.keep K sf0 W139.inv) ?_
          intro v149 T149 h149 lo149 W149 K149 q149
          obtain rfl := q149.2.2
          show Gl _ _ _ _ _ _ _ _ [(.int 1)]
          refine o_istore W149 (L' := #[vi p0, vi p1, vi p2, vi p3, vi p4, vi 2, vi 1, vi za, vi zb, vi r1_134, vi r1_135, vi r1_136, vi r1_137, vr r1_138, vr r1_139, vi 1]) 146 (hb hy at_144) rfl rfl <| o_goto W149 189 (hb hy at_146) (by decide) rfl <| o_aload W149 191 (hb hy at_189) rfl rfl rfl <| o_aload W149 193 (hb hy at_191) rfl rfl rfl ?_
          have c150 := ((P138_2.keep K139).keep K149)
          have c151 := (P139_2.keep K149)
          have c152 := ((P138_1.keep K139).keep K149)
          have c153 := (P139_1.keep K149)
          refine o_staticC W149 (w35 hw) (w36 hw) (w37 hw) (w38 hw) (by decide) (rm212 l hw r1_138 r1_139 r1_134 r1_135 r1_136 h149 W149.old c152 c150 c153 c151 hq140 hq148) 0 8 32 (by decide) (by rw [hml]; rfl) (lenOf pd7 rfl) [] rfl rfl 196 (hb hy at_193) rfl rfl rfl all0 (fun _ K => IW.keep K sf0 W149.inv) ?_
          intro v154 T154 h154 lo154 W154 K154 q154
          obtain rfl := q154.2.2
          show Gl _ _ _ _ _ _ _ _ [(.int 1)]
          refine o_staticC W154 (w54 hw) (w55 hw) (w2 hw) (w56 hw) (by decide) (rm194 l hw  h154 W154.old ) 0 8 32 (by decide) (by rw [hml]; rfl) (lenOf pd8 rfl) [] rfl rfl 199 (hb hy at_196) rfl rfl rfl all0 (fun _ K => IW.keep K sf0 W154.inv) ?_
          intro v155 T155 h155 lo155 W155 K155 q155
          obtain rfl := q155.2.2
          show Gl _ _ _ _ _ _ _ _ [(.int 1)]
          refine o_iload W155 201 (hb hy at_199) rfl rfl <| o_icmpN W155 204 (hb hy at_201) (XT.ii_ne_f (by decide)) rfl <| o_iconst W155 (v := 1) 205 (hb hy at_204) rfl rfl <| o_goto W155 209 (hb hy at_205) (by decide) rfl ?_
          exact o_retNW W155 (own_EL hw) hlk (t := .boolean) hret (by simp) (z' := (1 : Int32)) (by decide) (hb hy at_209) (by decide) (by decide) rfl
        · refine o_staticC W139 (w32 hw) (w33 hw) (w2 hw) (w34 hw) (by decide) (rm201 l hw r1_134 r1_136 h139 W139.old hq148) 0 8 32 (by decide) (by rw [hml]; rfl) (lenOf pd5 rfl) [] rfl rfl 144 (hb hy at_141) rfl rfl rfl all0 (fun _ K => IW.keep K sf0 W139.inv) ?_
          intro v156 T156 h156 lo156 W156 K156 q156
          obtain rfl := q156.2.2
          show Gl _ _ _ _ _ _ _ _ [(.int (-1 : Int32))]
          refine o_istore W156 (L' := #[vi p0, vi p1, vi p2, vi p3, vi p4, vi 2, vi 1, vi za, vi zb, vi r1_134, vi r1_135, vi r1_136, vi r1_137, vr r1_138, vr r1_139, vi (-1 : Int32)]) 146 (hb hy at_144) rfl rfl <| o_goto W156 189 (hb hy at_146) (by decide) rfl <| o_aload W156 191 (hb hy at_189) rfl rfl rfl <| o_aload W156 193 (hb hy at_191) rfl rfl rfl ?_
          have c157 := ((P138_2.keep K139).keep K156)
          have c158 := (P139_2.keep K156)
          have c159 := ((P138_1.keep K139).keep K156)
          have c160 := (P139_1.keep K156)
          refine o_staticC W156 (w35 hw) (w36 hw) (w37 hw) (w38 hw) (by decide) (rm213 l hw r1_138 r1_139 r1_134 r1_135 r1_136 h156 W156.old c159 c157 c160 c158 hq140 hq148) 0 8 32 (by decide) (by rw [hml]; rfl) (lenOf pd7 rfl) [] rfl rfl 196 (hb hy at_193) rfl rfl rfl all0 (fun _ K => IW.keep K sf0 W156.inv) ?_
          intro v161 T161 h161 lo161 W161 K161 q161
          obtain rfl := q161.2.2
          show Gl _ _ _ _ _ _ _ _ [(.int (-1 : Int32))]
          refine o_staticC W161 (w54 hw) (w55 hw) (w2 hw) (w56 hw) (by decide) (rm69 l hw  h161 W161.old ) 0 8 32 (by decide) (by rw [hml]; rfl) (lenOf pd8 rfl) [] rfl rfl 199 (hb hy at_196) rfl rfl rfl all0 (fun _ K => IW.keep K sf0 W161.inv) ?_
          intro v162 T162 h162 lo162 W162 K162 q162
          obtain rfl := q162.2.2
          show Gl _ _ _ _ _ _ _ _ [(.int (-1 : Int32))]
          refine o_iload W162 201 (hb hy at_199) rfl rfl <| o_icmpN W162 204 (hb hy at_201) (XT.ii_ne_f (by decide)) rfl <| o_iconst W162 (v := 1) 205 (hb hy at_204) rfl rfl <| o_goto W162 209 (hb hy at_205) (by decide) rfl ?_
          exact o_retNW W162 (own_EL hw) hlk (t := .boolean) hret (by simp) (z' := (1 : Int32)) (by decide) (hb hy at_209) (by decide) (by decide) rfl
    · rw [ek120]
      refine o_iloadN W0 49 (hb hy at_48) rfl rfl <| o_iload W0 51 (hb hy at_49) rfl rfl <| o_iconst W0 (v := 1) 52 (hb hy at_51) rfl rfl <| o_icmpY W0 59 (hb hy at_52) (XT.ii_ne_t (by decide)) (by decide) rfl <| o_iconst W0 (v := 0) 60 (hb hy at_59) rfl rfl ?_
      refine o_staticC W0 (w0 hw) (w1 hw) (w2 hw) (w3 hw) (by decide) (rm6 l hw p0 (0 : Int32) h0 W0.old ) 0 0 0 (by decide) (by rw [hml]; rfl) (lenOf pd0 rfl) [] rfl rfl 63 (hb hy at_60) rfl rfl rfl all0 (fun _ K => IW.keep K sf0 W0.inv) ?_
      intro v163 T163 h163 lo163 W163 K163 q163
      obtain ⟨r1_163, P163_0, P163_1, rfl⟩ := q163.2.2
      show Gl _ _ _ _ _ _ _ _ [(.int r1_163)]
      refine o_istore W163 (L' := #[vi p0, vi p1, vi p2, vi p3, vi p4, vi 2, vi 2, vi za, vi zb, vi r1_163, un, un, un, un, un, un]) 65 (hb hy at_63) rfl rfl <| o_iloadN W163 66 (hb hy at_65) rfl rfl <| o_iconst W163 (v := 1) 67 (hb hy at_66) rfl rfl ?_
      refine o_staticC W163 (w0 hw) (w1 hw) (w2 hw) (w3 hw) (by decide) (rm6 l hw p1 (1 : Int32) h163 W163.old ) 0 0 0 (by decide) (by rw [hml]; rfl) (lenOf pd0 rfl) [] rfl rfl 70 (hb hy at_67) rfl rfl rfl all0 (fun _ K => IW.keep K sf0 W163.inv) ?_
      intro v164 T164 h164 lo164 W164 K164 q164
      obtain ⟨r1_164, P164_0, P164_1, rfl⟩ := q164.2.2
      show Gl _ _ _ _ _ _ _ _ [(.int r1_164)]
      refine o_istore W164 (L' := #[vi p0, vi p1, vi p2, vi p3, vi p4, vi 2, vi 2, vi za, vi zb, vi r1_163, vi r1_164, un, un, un, un, un]) 72 (hb hy at_70) rfl rfl <| o_iload W164 74 (hb hy at_72) rfl rfl <| o_iload W164 76 (hb hy at_74) rfl rfl <| o_iconst W164 (v := 1) 77 (hb hy at_76) rfl rfl <| o_icmpY W164 84 (hb hy at_77) (XT.ii_ne_t (by decide)) (by decide) rfl <| o_iconst W164 (v := 0) 85 (hb hy at_84) rfl rfl ?_
      refine o_staticC W164 (w0 hw) (w1 hw) (w2 hw) (w3 hw) (by decide) (rm6 l hw za (0 : Int32) h164 W164.old ) 0 0 0 (by decide) (by rw [hml]; rfl) (lenOf pd0 rfl) [] rfl rfl 88 (hb hy at_85) rfl rfl rfl all0 (fun _ K => IW.keep K sf0 W164.inv) ?_
      intro v165 T165 h165 lo165 W165 K165 q165
      obtain ⟨r1_165, P165_0, P165_1, rfl⟩ := q165.2.2
      show Gl _ _ _ _ _ _ _ _ [(.int r1_165)]
      refine o_istore W165 (L' := #[vi p0, vi p1, vi p2, vi p3, vi p4, vi 2, vi 2, vi za, vi zb, vi r1_163, vi r1_164, vi r1_165, un, un, un, un]) 90 (hb hy at_88) rfl rfl <| o_iload W165 92 (hb hy at_90) rfl rfl <| o_iconst W165 (v := 1) 93 (hb hy at_92) rfl rfl ?_
      refine o_staticC W165 (w0 hw) (w1 hw) (w2 hw) (w3 hw) (by decide) (rm6 l hw zb (1 : Int32) h165 W165.old ) 0 0 0 (by decide) (by rw [hml]; rfl) (lenOf pd0 rfl) [] rfl rfl 96 (hb hy at_93) rfl rfl rfl all0 (fun _ K => IW.keep K sf0 W165.inv) ?_
      intro v166 T166 h166 lo166 W166 K166 q166
      obtain ⟨r1_166, P166_0, P166_1, rfl⟩ := q166.2.2
      show Gl _ _ _ _ _ _ _ _ [(.int r1_166)]
      refine o_istore W166 (L' := #[vi p0, vi p1, vi p2, vi p3, vi p4, vi 2, vi 2, vi za, vi zb, vi r1_163, vi r1_164, vi r1_165, vi r1_166, un, un, un]) 98 (hb hy at_96) rfl rfl <| o_iload W166 100 (hb hy at_98) rfl rfl <| o_iload W166 102 (hb hy at_100) rfl rfl <| o_iload W166 104 (hb hy at_102) rfl rfl ?_
      refine o_staticC W166 (w7 hw) (w8 hw) (w2 hw) (w9 hw) (by decide) (rm188 l hw gCS gF r1_163 r1_164 h166 W166.old P163_0 P164_0 SgCS NgCS SgF NgF z0 z1 z2 (P163_1 rfl)) 0 4 20 (by decide) (by rw [hml]; rfl) (lenOf pd4 rfl) [] rfl rfl 107 (hb hy at_104) rfl rfl rfl all0 (fun _ K => IW.keep K sf0 W166.inv) ?_
      intro v167 T167 h167 lo167 W167 K167 q167
      obtain ⟨r1_167, P167_0, P167_1, P167_2, rfl⟩ := q167.2.2
      show Gl _ _ _ _ _ _ _ _ [(.ref r1_167)]
      refine o_astore W167 (L' := #[vi p0, vi p1, vi p2, vi p3, vi p4, vi 2, vi 2, vi za, vi zb, vi r1_163, vi r1_164, vi r1_165, vi r1_166, vr r1_167, un, un]) 109 (hb hy at_107) rfl rfl rfl <| o_iload W167 111 (hb hy at_109) rfl rfl <| o_iload W167 113 (hb hy at_111) rfl rfl <| o_iload W167 115 (hb hy at_113) rfl rfl ?_
      refine o_staticC W167 (w7 hw) (w8 hw) (w2 hw) (w9 hw) (by decide) (rm188 l hw gCS gF r1_165 r1_166 h167 W167.old P165_0 P166_0 SgCS NgCS SgF NgF z0 z1 z2 (P165_1 rfl)) 0 8 40 (by decide) (by rw [hml]; rfl) (lenOf pd4 rfl) [] rfl rfl 118 (hb hy at_115) rfl rfl rfl all0 (fun _ K => IW.keep K sf0 W167.inv) ?_
      intro v168 T168 h168 lo168 W168 K168 q168
      obtain ⟨r1_168, P168_0, P168_1, P168_2, rfl⟩ := q168.2.2
      show Gl _ _ _ _ _ _ _ _ [(.ref r1_168)]
      refine o_astore W168 (L' := #[vi p0, vi p1, vi p2, vi p3, vi p4, vi 2, vi 2, vi za, vi zb, vi r1_163, vi r1_164, vi r1_165, vi r1_166, vr r1_167, vr r1_168, un]) 120 (hb hy at_118) rfl rfl rfl <| o_iload W168 122 (hb hy at_120) rfl rfl <| o_ifN W168 125 (hb hy at_122) (XT.i0_le_f (by decide)) rfl <| o_iload W168 127 (hb hy at_125) rfl rfl <| o_ifN W168 130 (hb hy at_127) (XT.i0_le_f (by decide)) rfl <| o_iload W168 132 (hb hy at_130) rfl rfl ?_
      refine o_iload W168 134 (hb hy at_132) rfl rfl ?_
      by_cases hq169 : r1_163 = r1_165
      · refine o_icmpY W168 149 (hb hy at_134) (XT.ii_eq_t hq169) (by decide) rfl <| o_iload W168 151 (hb hy at_149) rfl rfl <| o_iconst W168 (v := 1) 152 (hb hy at_151) rfl rfl <| o_icmpN W168 155 (hb hy at_152) (XT.ii_le_f (by decide)) rfl <| o_iload W168 157 (hb hy at_155) rfl rfl <| o_iconst W168 (v := 1) 158 (hb hy at_157) rfl rfl ?_
        refine o_icmpN W168 161 (hb hy at_158) (XT.ii_le_f (by decide)) rfl <| o_iload W168 163 (hb hy at_161) rfl rfl <| o_iload W168 165 (hb hy at_163) rfl rfl ?_
        by_cases hq170 : r1_164 = r1_166
        · refine o_icmpY W168 180 (hb hy at_165) (XT.ii_eq_t hq170) (by decide) rfl <| o_iload W168 182 (hb hy at_180) rfl rfl <| o_iload W168 184 (hb hy at_182) rfl rfl ?_
          refine o_staticC W168 (w32 hw) (w33 hw) (w2 hw) (w34 hw) (by decide) (rm214 l hw  h168 W168.old ) 0 8 40 (by decide) (by rw [hml]; rfl) (lenOf pd5 rfl) [] rfl rfl 187 (hb hy at_184) rfl rfl rfl all0 (fun _ K => IW.keep K sf0 W168.inv) ?_
          intro v171 T171 h171 lo171 W171 K171 q171
          obtain rfl := q171.2.2
          show Gl _ _ _ _ _ _ _ _ [iZ]
          refine o_istore W171 (L' := #[vi p0, vi p1, vi p2, vi p3, vi p4, vi 2, vi 2, vi za, vi zb, vi r1_163, vi r1_164, vi r1_165, vi r1_166, vr r1_167, vr r1_168, vi 0]) 189 (hb hy at_187) rfl rfl <| o_aload W171 191 (hb hy at_189) rfl rfl rfl <| o_aload W171 193 (hb hy at_191) rfl rfl rfl ?_
          have c172 := ((P167_2.keep K168).keep K171)
          have c173 := (P168_2.keep K171)
          have c174 := ((P167_1.keep K168).keep K171)
          have c175 := (P168_1.keep K171)
          refine o_staticC W171 (w35 hw) (w36 hw) (w37 hw) (w38 hw) (by decide) (rm215 l hw r1_167 r1_168 r1_163 r1_164 r1_165 r1_166 h171 W171.old c174 c172 c175 c173 hq169 hq170) 0 8 40 (by decide) (by rw [hml]; rfl) (lenOf pd7 rfl) [] rfl rfl 196 (hb hy at_193) rfl rfl rfl all0 (fun _ K => IW.keep K sf0 W171.inv) ?_
          intro v176 T176 h176 lo176 W176 K176 q176
          obtain rfl := q176.2.2
          show Gl _ _ _ _ _ _ _ _ [iZ]
          refine o_staticC W176 (w54 hw) (w55 hw) (w2 hw) (w56 hw) (by decide) (rm15 l hw  h176 W176.old ) 0 8 40 (by decide) (by rw [hml]; rfl) (lenOf pd8 rfl) [] rfl rfl 199 (hb hy at_196) rfl rfl rfl all0 (fun _ K => IW.keep K sf0 W176.inv) ?_
          intro v177 T177 h177 lo177 W177 K177 q177
          obtain rfl := q177.2.2
          show Gl _ _ _ _ _ _ _ _ [iZ]
          refine o_iload W177 201 (hb hy at_199) rfl rfl <| o_icmpN W177 204 (hb hy at_201) (XT.ii_ne_f (by decide)) rfl <| o_iconst W177 (v := 1) 205 (hb hy at_204) rfl rfl <| o_goto W177 209 (hb hy at_205) (by decide) rfl ?_
          exact o_retNW W177 (own_EL hw) hlk (t := .boolean) hret (by simp) (z' := (1 : Int32)) (by decide) (hb hy at_209) (by decide) (by decide) rfl
        · refine o_icmpN W168 168 (hb hy at_165) (XT.ii_eq_f hq170) rfl <| o_iload W168 170 (hb hy at_168) rfl rfl <| o_iload W168 172 (hb hy at_170) rfl rfl ?_
          rcases (Classical.em (r1_164 < r1_166)).symm with hq178 | hq178
          · refine o_staticC W168 (w32 hw) (w33 hw) (w2 hw) (w34 hw) (by decide) (rm198 l hw r1_164 r1_166 h168 W168.old hq178 (own_tri hq178 hq170)) 0 8 40 (by decide) (by rw [hml]; rfl) (lenOf pd5 rfl) [] rfl rfl 175 (hb hy at_172) rfl rfl rfl all0 (fun _ K => IW.keep K sf0 W168.inv) ?_
            intro v179 T179 h179 lo179 W179 K179 q179
            obtain rfl := q179.2.2
            show Gl _ _ _ _ _ _ _ _ [(.int 1)]
            refine o_istore W179 (L' := #[vi p0, vi p1, vi p2, vi p3, vi p4, vi 2, vi 2, vi za, vi zb, vi r1_163, vi r1_164, vi r1_165, vi r1_166, vr r1_167, vr r1_168, vi 1]) 177 (hb hy at_175) rfl rfl <| o_goto W179 189 (hb hy at_177) (by decide) rfl <| o_aload W179 191 (hb hy at_189) rfl rfl rfl <| o_aload W179 193 (hb hy at_191) rfl rfl rfl ?_
            have c180 := ((P167_2.keep K168).keep K179)
            have c181 := (P168_2.keep K179)
            have c182 := ((P167_1.keep K168).keep K179)
            have c183 := (P168_1.keep K179)
            refine o_staticC W179 (w35 hw) (w36 hw) (w37 hw) (w38 hw) (by decide) (rm216 l hw r1_167 r1_168 r1_163 r1_164 r1_165 r1_166 h179 W179.old c182 c180 c183 c181 hq169 hq170 hq178) 0 8 40 (by decide) (by rw [hml]; rfl) (lenOf pd7 rfl) [] rfl rfl 196 (hb hy at_193) rfl rfl rfl all0 (fun _ K => IW.keep K sf0 W179.inv) ?_
            intro v184 T184 h184 lo184 W184 K184 q184
            obtain rfl := q184.2.2
            show Gl _ _ _ _ _ _ _ _ [(.int 1)]
            refine o_staticC W184 (w54 hw) (w55 hw) (w2 hw) (w56 hw) (by decide) (rm194 l hw  h184 W184.old ) 0 8 40 (by decide) (by rw [hml]; rfl) (lenOf pd8 rfl) [] rfl rfl 199 (hb hy at_196) rfl rfl rfl all0 (fun _ K => IW.keep K sf0 W184.inv) ?_
            intro v185 T185 h185 lo185 W185 K185 q185
            obtain rfl := q185.2.2
            show Gl _ _ _ _ _ _ _ _ [(.int 1)]
            refine o_iload W185 201 (hb hy at_199) rfl rfl <| o_icmpN W185 204 (hb hy at_201) (XT.ii_ne_f (by decide)) rfl <| o_iconst W185 (v := 1) 205 (hb hy at_204) rfl rfl <| o_goto W185 209 (hb hy at_205) (by decide) rfl ?_
            exact o_retNW W185 (own_EL hw) hlk (t := .boolean) hret (by simp) (z' := (1 : Int32)) (by decide) (hb hy at_209) (by decide) (by decide) rfl
          · refine o_staticC W168 (w32 hw) (w33 hw) (w2 hw) (w34 hw) (by decide) (rm201 l hw r1_164 r1_166 h168 W168.old hq178) 0 8 40 (by decide) (by rw [hml]; rfl) (lenOf pd5 rfl) [] rfl rfl 175 (hb hy at_172) rfl rfl rfl all0 (fun _ K => IW.keep K sf0 W168.inv) ?_
            intro v186 T186 h186 lo186 W186 K186 q186
            obtain rfl := q186.2.2
            show Gl _ _ _ _ _ _ _ _ [(.int (-1 : Int32))]
            refine o_istore W186 (L' := #[vi p0, vi p1, vi p2, vi p3, vi p4, vi 2, vi 2, vi za, vi zb, vi r1_163, vi r1_164, vi r1_165, vi r1_166, vr r1_167, vr r1_168, vi (-1 : Int32)]) 177 (hb hy at_175) rfl rfl <| o_goto W186 189 (hb hy at_177) (by decide) rfl <| o_aload W186 191 (hb hy at_189) rfl rfl rfl <| o_aload W186 193 (hb hy at_191) rfl rfl rfl ?_
            have c187 := ((P167_2.keep K168).keep K186)
            have c188 := (P168_2.keep K186)
            have c189 := ((P167_1.keep K168).keep K186)
            have c190 := (P168_1.keep K186)
            refine o_staticC W186 (w35 hw) (w36 hw) (w37 hw) (w38 hw) (by decide) (rm217 l hw r1_167 r1_168 r1_163 r1_164 r1_165 r1_166 h186 W186.old c189 c187 c190 c188 hq169 hq170 hq178) 0 8 40 (by decide) (by rw [hml]; rfl) (lenOf pd7 rfl) [] rfl rfl 196 (hb hy at_193) rfl rfl rfl all0 (fun _ K => IW.keep K sf0 W186.inv) ?_
            intro v191 T191 h191 lo191 W191 K191 q191
            obtain rfl := q191.2.2
            show Gl _ _ _ _ _ _ _ _ [(.int (-1 : Int32))]
            refine o_staticC W191 (w54 hw) (w55 hw) (w2 hw) (w56 hw) (by decide) (rm69 l hw  h191 W191.old ) 0 8 40 (by decide) (by rw [hml]; rfl) (lenOf pd8 rfl) [] rfl rfl 199 (hb hy at_196) rfl rfl rfl all0 (fun _ K => IW.keep K sf0 W191.inv) ?_
            intro v192 T192 h192 lo192 W192 K192 q192
            obtain rfl := q192.2.2
            show Gl _ _ _ _ _ _ _ _ [(.int (-1 : Int32))]
            refine o_iload W192 201 (hb hy at_199) rfl rfl <| o_icmpN W192 204 (hb hy at_201) (XT.ii_ne_f (by decide)) rfl <| o_iconst W192 (v := 1) 205 (hb hy at_204) rfl rfl <| o_goto W192 209 (hb hy at_205) (by decide) rfl ?_
            exact o_retNW W192 (own_EL hw) hlk (t := .boolean) hret (by simp) (z' := (1 : Int32)) (by decide) (hb hy at_209) (by decide) (by decide) rfl
      · refine o_icmpN W168 137 (hb hy at_134) (XT.ii_eq_f hq169) rfl <| o_iload W168 139 (hb hy at_137) rfl rfl <| o_iload W168 141 (hb hy at_139) rfl rfl ?_
        rcases (Classical.em (r1_163 < r1_165)).symm with hq193 | hq193
        · refine o_staticC W168 (w32 hw) (w33 hw) (w2 hw) (w34 hw) (by decide) (rm198 l hw r1_163 r1_165 h168 W168.old hq193 (own_tri hq193 hq169)) 0 8 40 (by decide) (by rw [hml]; rfl) (lenOf pd5 rfl) [] rfl rfl 144 (hb hy at_141) rfl rfl rfl all0 (fun _ K => IW.keep K sf0 W168.inv) ?_
          intro v194 T194 h194 lo194 W194 K194 q194
          obtain rfl := q194.2.2
          show Gl _ _ _ _ _ _ _ _ [(.int 1)]
          refine o_istore W194 (L' := #[vi p0, vi p1, vi p2, vi p3, vi p4, vi 2, vi 2, vi za, vi zb, vi r1_163, vi r1_164, vi r1_165, vi r1_166, vr r1_167, vr r1_168, vi 1]) 146 (hb hy at_144) rfl rfl <| o_goto W194 189 (hb hy at_146) (by decide) rfl <| o_aload W194 191 (hb hy at_189) rfl rfl rfl <| o_aload W194 193 (hb hy at_191) rfl rfl rfl ?_
          have c195 := ((P167_2.keep K168).keep K194)
          have c196 := (P168_2.keep K194)
          have c197 := ((P167_1.keep K168).keep K194)
          have c198 := (P168_1.keep K194)
          refine o_staticC W194 (w35 hw) (w36 hw) (w37 hw) (w38 hw) (by decide) (rm218 l hw r1_167 r1_168 r1_163 r1_164 r1_165 r1_166 h194 W194.old c197 c195 c198 c196 hq169 hq193) 0 8 40 (by decide) (by rw [hml]; rfl) (lenOf pd7 rfl) [] rfl rfl 196 (hb hy at_193) rfl rfl rfl all0 (fun _ K => IW.keep K sf0 W194.inv) ?_
          intro v199 T199 h199 lo199 W199 K199 q199
          obtain rfl := q199.2.2
          show Gl _ _ _ _ _ _ _ _ [(.int 1)]
          refine o_staticC W199 (w54 hw) (w55 hw) (w2 hw) (w56 hw) (by decide) (rm194 l hw  h199 W199.old ) 0 8 40 (by decide) (by rw [hml]; rfl) (lenOf pd8 rfl) [] rfl rfl 199 (hb hy at_196) rfl rfl rfl all0 (fun _ K => IW.keep K sf0 W199.inv) ?_
          intro v200 T200 h200 lo200 W200 K200 q200
          obtain rfl := q200.2.2
          show Gl _ _ _ _ _ _ _ _ [(.int 1)]
          refine o_iload W200 201 (hb hy at_199) rfl rfl <| o_icmpN W200 204 (hb hy at_201) (XT.ii_ne_f (by decide)) rfl <| o_iconst W200 (v := 1) 205 (hb hy at_204) rfl rfl <| o_goto W200 209 (hb hy at_205) (by decide) rfl ?_
          exact o_retNW W200 (own_EL hw) hlk (t := .boolean) hret (by simp) (z' := (1 : Int32)) (by decide) (hb hy at_209) (by decide) (by decide) rfl
        · refine o_staticC W168 (w32 hw) (w33 hw) (w2 hw) (w34 hw) (by decide) (rm201 l hw r1_163 r1_165 h168 W168.old hq193) 0 8 40 (by decide) (by rw [hml]; rfl) (lenOf pd5 rfl) [] rfl rfl 144 (hb hy at_141) rfl rfl rfl all0 (fun _ K => IW.keep K sf0 W168.inv) ?_
          intro v201 T201 h201 lo201 W201 K201 q201
          obtain rfl := q201.2.2
          show Gl _ _ _ _ _ _ _ _ [(.int (-1 : Int32))]
          refine o_istore W201 (L' := #[vi p0, vi p1, vi p2, vi p3, vi p4, vi 2, vi 2, vi za, vi zb, vi r1_163, vi r1_164, vi r1_165, vi r1_166, vr r1_167, vr r1_168, vi (-1 : Int32)]) 146 (hb hy at_144) rfl rfl <| o_goto W201 189 (hb hy at_146) (by decide) rfl <| o_aload W201 191 (hb hy at_189) rfl rfl rfl <| o_aload W201 193 (hb hy at_191) rfl rfl rfl ?_
          have c202 := ((P167_2.keep K168).keep K201)
          have c203 := (P168_2.keep K201)
          have c204 := ((P167_1.keep K168).keep K201)
          have c205 := (P168_1.keep K201)
          refine o_staticC W201 (w35 hw) (w36 hw) (w37 hw) (w38 hw) (by decide) (rm219 l hw r1_167 r1_168 r1_163 r1_164 r1_165 r1_166 h201 W201.old c204 c202 c205 c203 hq169 hq193) 0 8 40 (by decide) (by rw [hml]; rfl) (lenOf pd7 rfl) [] rfl rfl 196 (hb hy at_193) rfl rfl rfl all0 (fun _ K => IW.keep K sf0 W201.inv) ?_
          intro v206 T206 h206 lo206 W206 K206 q206
          obtain rfl := q206.2.2
          show Gl _ _ _ _ _ _ _ _ [(.int (-1 : Int32))]
          refine o_staticC W206 (w54 hw) (w55 hw) (w2 hw) (w56 hw) (by decide) (rm69 l hw  h206 W206.old ) 0 8 40 (by decide) (by rw [hml]; rfl) (lenOf pd8 rfl) [] rfl rfl 199 (hb hy at_196) rfl rfl rfl all0 (fun _ K => IW.keep K sf0 W206.inv) ?_
          intro v207 T207 h207 lo207 W207 K207 q207
          obtain rfl := q207.2.2
          show Gl _ _ _ _ _ _ _ _ [(.int (-1 : Int32))]
          refine o_iload W207 201 (hb hy at_199) rfl rfl <| o_icmpN W207 204 (hb hy at_201) (XT.ii_ne_f (by decide)) rfl <| o_iconst W207 (v := 1) 205 (hb hy at_204) rfl rfl <| o_goto W207 209 (hb hy at_205) (by decide) rfl ?_
          exact o_retNW W207 (own_EL hw) hlk (t := .boolean) hret (by simp) (z' := (1 : Int32)) (by decide) (hb hy at_209) (by decide) (by decide) rfl
theorem comes_1 {Post : Tables → Env → Array Value → State → Outcome → State → Prop} (hpost : ∀ tb e args s v u, (limb_1_1.after args s (.returned v) u = true ∧ limb_1_2.after args s (.returned v) u = true ∧ True) → Jvm.ReturnedEndW s (.returned v) u (Jvm.fieldLocs frame_1_writes args s ++ Jvm.arrayLocs frame_1_arrays args s ++ Jvm.staticLocs frame_1_statics s) 32 1216 → Post tb e args s (.returned v) u) :
    ArmFor flags0 classFile x code maxLocals ret World_1 tables_1 room_1 Calls_1 rest_1 Pre_1 Post := by
  intro l hfl _ _ p e ha hc hk s m args below hf hA hF happ hP
  obtain ⟨hcalls, hrest, hpre⟩ := hP
  obtain ⟨-, -, -, hnamed, -, -, -, hat⟩ := (Spec.applies_iff hf).mp happ
  obtain ⟨hg, hn⟩ := and_e (Cond.before_iff.mp (show (Jvm.Cond.and given_1 narrow_1).before args s = true from hpre))
  obtain ⟨g1, g2⟩ := and_e hg
  obtain ⟨g3, g4⟩ := and_e g2
  obtain ⟨g5, g6⟩ := and_e g4
  obtain ⟨g7, g8⟩ := and_e g6
  obtain ⟨g9, g10⟩ := and_e g8
  obtain ⟨w0, w1, w2, w3, w4, rfl⟩ : ∃ w0 w1 w2 w3 w4 : Value, args = #[w0, w1, w2, w3, w4] := by
    have hs : args.size = 5 := by simpa [Cond.value, given_1] using g1
    obtain ⟨L⟩ := args
    match L, hs with
    | [w0, w1, w2, w3, w4], _ => exact ⟨w0, w1, w2, w3, w4, rfl⟩
  obtain ⟨i0, ei0⟩ := is_v g3
  obtain rfl : w0 = (.int i0) := Option.some.inj ei0
  obtain ⟨i1, ei1⟩ := is_v g5
  obtain rfl : w1 = (.int i1) := Option.some.inj ei1
  obtain ⟨i2, ei2⟩ := is_v g7
  obtain rfl : w2 = (.int i2) := Option.some.inj ei2
  obtain ⟨i3, ei3⟩ := is_v g9
  obtain rfl : w3 = (.int i3) := Option.some.inj ei3
  obtain ⟨i4, ei4⟩ := is_v g10
  obtain rfl : w4 = (.int i4) := Option.some.inj ei4
  have hw := fun d (hd : d ∈ tables_1) => atoms_spec (ws := Jvm.Cond.code x code maxLocals ret :: tables_1) hat d (List.mem_cons_of_mem _ hd)
  have hfit : Fit s := fun {y c} hc i hi => by
    obtain ⟨ha, rfl⟩ := Array.getElem?_eq_some_iff.mp hc
    have q := List.all_eq_true.mp ((Array.all_eq_true_iff_forall_mem.mp hF) _ (Array.getElem_mem ha)) i (List.mem_range.mpr hi)
    simpa [Array.getElem?_eq_getElem hi] using q
  obtain ⟨hsets, hown0⟩ := atoms_of _ (rest_1_c_eq ▸ (show rest_1_c.before _ s = true from hrest))
  obtain ⟨gCS, eCS⟩ := is_v (Cond.before_iff.mp (hsets _ (List.mem_of_getElem? (i := 1) rfl)))
  have SgCS := Sta.start eCS (Or.inl (hsets _ (List.mem_of_getElem? (i := 0) rfl)))
  have NgCS : ¬ (gCS = (0 : Int32)) := gotF (own_eqS eCS) (not_v (Cond.before_iff.mp (hsets _ (List.mem_of_getElem? (i := 2) rfl))))
  have S__assertionsDisabled := Sta.start (eqv_i (Term.int_eval _) (Cond.before_iff.mp (hsets _ (List.mem_of_getElem? (i := 12) rfl)))) (Or.inl (hsets _ (List.mem_of_getElem? (i := 11) rfl)))
  have S_HI_BYTE_SHIFT := Sta.start (eqv_i (Term.int_eval _) (Cond.before_iff.mp (hsets _ (List.mem_of_getElem? (i := 15) rfl)))) (Or.inl (hsets _ (List.mem_of_getElem? (i := 14) rfl)))
  have S_LO_BYTE_SHIFT := Sta.start (eqv_i (Term.int_eval _) (Cond.before_iff.mp (hsets _ (List.mem_of_getElem? (i := 18) rfl)))) (Or.inl (hsets _ (List.mem_of_getElem? (i := 17) rfl)))
  obtain ⟨gF, evF, NgF⟩ := isR_v (Cond.before_iff.mp (hsets _ (List.mem_of_getElem? (i := 8) rfl)))
  have SgF := Sta.start evF (Or.inl (hsets _ (List.mem_of_getElem? (i := 7) rfl)))
  have hCH : CHv s consts_1 s.vm s.heap := CHv.start (own_EL hw) (show ∀ p ∈ consts_1, Jvm.Lit.constHeld s p.1 p.2 from hcalls.1) (show Jvm.Lit.compactW.before _ s = true from (hsets _ (List.mem_of_getElem? (i := 2) rfl))) (w25 hw) (w11 hw)
  obtain ⟨n, o, h1, h2, h3, _, L, rfl, ⟨N, -, rfl⟩, -, hq⟩ := rm_law l hw gCS gF i0 i1 i2 i3 i4 s.heap (Old.start s) SgCS NgCS SgF NgF S__assertionsDisabled S_HI_BYTE_SHIFT S_LO_BYTE_SHIFT p e ha hc hk s m _ below hf ((Spec.applies_iff_loose hf).mp happ).1 ⟨rfl, State.Warmed39.refl s, rfl, hCH⟩ trivial
  refine ⟨n, _, h1, h2, h3, hpost _ _ _ _ _ _ ⟨Cond.after_iff.mpr rfl, Cond.after_iff.mpr (eq_i res_at (Term.int_eval (1)) rfl), trivial⟩ ⟨hq.1, hq.2.1, hq.2.2.1, (hq.2.2.2.sift fun y hy => Or.inr (N y hy)).mono (by decide) (by decide)⟩⟩
theorem main_1_1 : Claimed_1_1 := comes_1 fun _ _ _ _ _ _ h hF => ⟨h.1, hF⟩
theorem main_1_2 : Claimed_1_2 := comes_1 fun _ _ _ _ _ _ h hF => ⟨h.2.1, hF⟩
end Jvm.Pilot.@@N@@
namespace Jvm.Pilot.@@N@@
open Jvm Jvm.ClassFile Sem Op Lib Jvm.Free Jvm.Stand Jvm.Pilot.@@N@@.Jvm.D
/-! MADE BY PROGRAM (witnessworld.py) out of the Statement's table words and the real class files: 21 classes; the members and pool entries that the words name. The judged class is class 1, her method 7. -/
namespace start1
open Jvm.ClassFile
def u (s : String) : CpInfo := .utf8 (stringToUtf16 s)
/-- a pool by its gaps: so many unusable entries, then the entry; so many at the end -/
def gap : Nat → List CpInfo → List CpInfo
  | 0, r => r
  | n + 1, r => .unusable :: gap n r
def poolList (es : List (Nat × CpInfo)) (last : Nat) : List CpInfo := es.foldr (fun e r => gap e.1 (e.2 :: r)) (gap last [])
def pool (es : List (Nat × CpInfo)) (last : Nat) : Array CpInfo := ⟨poolList es last⟩
def fileOf (pool : Array CpInfo) (this : Nat) (attrs : Array Attribute := #[]) (ms : Array MethodInfo := #[]) (fl : Nat := 33) (sup : Nat := 0) (ifs : Array Nat := #[]) (fds : Array FieldInfo := #[]) : ClassFile where
  minorVersion := 0
  majorVersion := 65
  constantPool := pool
  accessFlags := fl
  thisClass := this
  superClass := sup
  interfaces := ifs
  fields := fds
  methods := ms
  attributes := attrs
def plain (name : String) (sup : Option ClassId) : Class where
  name := name
  kind := .ordinary
  loader := none
  accessFlags := 33
  super := sup
  interfaces := #[]
  cf := none
  fields := #[]
  methods := #[]
  instanceTypes := #[]
  staticTypes := #[]
  resolved := #[]
  callSites := []
  init := .initialized
  statics := none
  mirror := none

def pool0 : Array CpInfo := pool [(5, u "<init>"), (0, u "()V"), (1, .class_ 10), (1, u "java/lang/Object")] 113

def k0c0 : Code := { maxStack := 0, maxLocals := 1, code := object_method_1_code, exceptionTable := #[], attributes := #[] }
def k0m0 : Method := { name := "<init>", desc := "()V", sig := { parameters := [], returnType := none }, accessFlags := 1, code := some k0c0 }
/-- java/lang/Object -/
def k0 : Class := { plain "java/lang/Object" none with
  accessFlags := 33
  interfaces := #[]
  cf := some (fileOf pool0 8 #[] #[⟨1, 5, 6, #[]⟩] 33 0 #[] #[])
  fields := #[]
  methods := #[k0m0]
  instanceTypes := #[]
  staticTypes := #[]
  resolved := Array.replicate 124 none
  statics := none }

def pool1 : Array CpInfo := pool [(2, .class_ 4), (1, u "java/lang/Object"), (0, u "<init>"), (0, u "()V"), (0, .integer 2147483647), (0, .integer 1114112), (0, .integer 55296), (0, .integer 56319), (0, .integer 65536), (0, .integer 56320), (0, .class_ 14), (0, u "java/lang/String"), (0, .methodref 13 16), (0, .nameAndType 5 17), (0, u "([C)V"), (0, .methodref 19 20), (0, .class_ 21), (0, .nameAndType 22 23), (0, u "com/example/countersign/countersign/Utf8ComparePinLaw"), (0, u "hi"), (0, u "(I)C"), (0, .methodref 19 25), (0, .nameAndType 26 23), (0, u "lo"), (0, .methodref 19 28), (0, .nameAndType 29 30), (0, u "toCp"), (0, u "(IZ)I"), (0, .methodref 19 32), (0, .nameAndType 33 34), (0, u "str"), (0, u "(III)Ljava/lang/String;"), (0, .methodref 19 36), (0, .nameAndType 37 38), (0, u "cmp"), (0, u "(II)I"), (0, .methodref 40 41), (0, .class_ 42), (0, .nameAndType 43 44), (0, u "com/example/countersign/countersign/Utf8"), (0, u "compare"), (0, u "(Ljava/lang/String;Ljava/lang/String;)I"), (0, .methodref 19 46), (0, .nameAndType 47 48), (0, u "sign"), (0, u "(I)I"), (3, u "law"), (0, u "(IIIII)Z")] 2

def k1m0 : Method := { name := "<init>", desc := "()V", sig := { parameters := [], returnType := none }, accessFlags := 2, code := none }
def k1c1 : Code := { maxStack := 1, maxLocals := 1, code := method_2_code, exceptionTable := #[], attributes := #[] }
def k1m1 : Method := { name := "sign", desc := "(I)I", sig := { parameters := [.int], returnType := some .int }, accessFlags := 10, code := some k1c1 }
def k1c2 : Code := { maxStack := 2, maxLocals := 2, code := method_3_code, exceptionTable := #[], attributes := #[] }
def k1m2 : Method := { name := "cmp", desc := "(II)I", sig := { parameters := [.int, .int], returnType := some .int }, accessFlags := 10, code := some k1c2 }
def k1c3 : Code := { maxStack := 2, maxLocals := 3, code := method_4_code, exceptionTable := #[], attributes := #[] }
def k1m3 : Method := { name := "toCp", desc := "(IZ)I", sig := { parameters := [.int, .boolean], returnType := some .int }, accessFlags := 10, code := some k1c3 }
def k1c4 : Code := { maxStack := 3, maxLocals := 1, code := method_5_code, exceptionTable := #[], attributes := #[] }
def k1m4 : Method := { name := "hi", desc := "(I)C", sig := { parameters := [.int], returnType := some .char }, accessFlags := 10, code := some k1c4 }
def k1c5 : Code := { maxStack := 3, maxLocals := 1, code := method_6_code, exceptionTable := #[], attributes := #[] }
def k1m5 : Method := { name := "lo", desc := "(I)C", sig := { parameters := [.int], returnType := some .char }, accessFlags := 10, code := some k1c5 }
def k1c6 : Code := { maxStack := 6, maxLocals := 5, code := method_7_code, exceptionTable := #[], attributes := #[] }
def k1m6 : Method := { name := "str", desc := "(III)Ljava/lang/String;", sig := { parameters := [.int, .int, .int], returnType := some (.object "java/lang/String") }, accessFlags := 10, code := some k1c6 }
def k1c7 : Code := { maxStack := 3, maxLocals := 16, code := code, exceptionTable := #[], attributes := #[] }
def k1m7 : Method := { name := "law", desc := "(IIIII)Z", sig := { parameters := [.int, .int, .int, .int, .int], returnType := some .boolean }, accessFlags := 9, code := some k1c7 }
/-- com/example/countersign/countersign/Utf8ComparePinLaw -/
def k1 : Class := { plain "com/example/countersign/countersign/Utf8ComparePinLaw" (some 0) with
  accessFlags := 49
  interfaces := #[]
  cf := some (fileOf pool1 19 #[] #[⟨2, 5, 6, #[]⟩, ⟨10, 47, 48, #[]⟩, ⟨10, 37, 38, #[]⟩, ⟨10, 29, 30, #[]⟩, ⟨10, 22, 23, #[]⟩, ⟨10, 26, 23, #[]⟩, ⟨10, 33, 34, #[]⟩, ⟨9, 52, 53, #[]⟩] 49 2 #[] #[])
  fields := #[]
  methods := #[k1m0, k1m1, k1m2, k1m3, k1m4, k1m5, k1m6, k1m7]
  instanceTypes := #[]
  staticTypes := #[]
  resolved := Array.replicate 56 none
  statics := none }

def pool2 : Array CpInfo := pool [(1, .class_ 2), (0, u "java/io/Serializable"), (0, .class_ 4), (0, u "java/lang/Object")] 2

/-- java/io/Serializable -/
def k2 : Class := { plain "java/io/Serializable" (some 0) with
  accessFlags := 1537
  interfaces := #[]
  cf := some (fileOf pool2 1 #[] #[] 1537 3 #[] #[])
  fields := #[]
  methods := #[]
  instanceTypes := #[]
  staticTypes := #[]
  resolved := Array.replicate 7 none
  statics := none }

def pool3 : Array CpInfo := pool [(1, .class_ 2), (0, u "java/lang/Comparable"), (0, .class_ 4), (0, u "java/lang/Object")] 7

/-- java/lang/Comparable -/
def k3 : Class := { plain "java/lang/Comparable" (some 0) with
  accessFlags := 1537
  interfaces := #[]
  cf := some (fileOf pool3 1 #[] #[] 1537 3 #[] #[])
  fields := #[]
  methods := #[]
  instanceTypes := #[]
  staticTypes := #[]
  resolved := Array.replicate 12 none
  statics := none }

def pool4 : Array CpInfo := pool [(2, .class_ 4), (1, u "java/lang/CharSequence"), (42, .class_ 48), (0, u "java/lang/CharSequence$1CodePointIterator"), (10, .class_ 60), (0, u "java/lang/CharSequence$1CharIterator"), (5, .class_ 67), (0, u "java/lang/Object")] 63

/-- java/lang/CharSequence -/
def k4 : Class := { plain "java/lang/CharSequence" (some 0) with
  accessFlags := 1537
  interfaces := #[]
  cf := some (fileOf pool4 2 #[.nestMembers #[47, 59]] #[] 1537 66 #[] #[])
  fields := #[]
  methods := #[]
  instanceTypes := #[]
  staticTypes := #[]
  resolved := Array.replicate 131 none
  statics := none }

def pool5 : Array CpInfo := pool [(1, .class_ 2), (0, u "java/lang/constant/Constable"), (0, .class_ 4), (0, u "java/lang/Object")] 6

/-- java/lang/constant/Constable -/
def k5 : Class := { plain "java/lang/constant/Constable" (some 0) with
  accessFlags := 1537
  interfaces := #[]
  cf := some (fileOf pool5 1 #[] #[] 1537 3 #[] #[])
  fields := #[]
  methods := #[]
  instanceTypes := #[]
  staticTypes := #[]
  resolved := Array.replicate 11 none
  statics := none }

def pool6 : Array CpInfo := pool [(1, .class_ 2), (0, u "java/lang/constant/ConstantDesc"), (0, .class_ 4), (0, u "java/lang/Object")] 32

/-- java/lang/constant/ConstantDesc -/
def k6 : Class := { plain "java/lang/constant/ConstantDesc" (some 0) with
  accessFlags := 1537
  interfaces := #[]
  cf := some (fileOf pool6 1 #[] #[] 1537 3 #[] #[])
  fields := #[]
  methods := #[]
  instanceTypes := #[]
  staticTypes := #[]
  resolved := Array.replicate 37 none
  statics := none }

def pool7 : Array CpInfo := pool [(1, .methodref 2 3), (0, .class_ 4), (0, .nameAndType 5 6), (0, u "java/lang/Object"), (0, u "<init>"), (0, u "()V"), (0, .string 8), (0, u ""), (0, .fieldref 10 11), (0, .class_ 12), (0, .nameAndType 13 14), (0, u "java/lang/String"), (0, u "value"), (0, u "[B"), (0, .fieldref 10 16), (0, .nameAndType 17 18), (0, u "coder"), (0, u "B"), (2, u "hash"), (0, u "I"), (2, u "hashIsZero"), (0, u "Z"), (0, .methodref 10 28), (0, .nameAndType 5 29), (0, u "([CIILjava/lang/Void;)V"), (8, .fieldref 10 39), (0, .nameAndType 40 26), (0, u "COMPACT_STRINGS"), (1, .class_ 44), (1, u "java/lang/StringUTF16"), (0, u "compress"), (1, .methodref 42 48), (0, .nameAndType 49 50), (0, u "coderFromArrayLen"), (0, u "([BI)B"), (46, u "([BII)I"), (44, u "()Z"), (34, .methodref 42 178), (0, .nameAndType 45 179), (0, u "([CII)[B"), (154, u "()I"), (0, .methodref 10 336), (0, .nameAndType 17 337), (0, u "()B"), (53, u "(II)V"), (100, .methodref 10 493), (0, .nameAndType 494 142), (0, u "isLatin1"), (4, .methodref 10 500), (0, .nameAndType 501 391), (0, u "checkIndex"), (0, .methodref 42 503), (0, .nameAndType 504 97), (0, u "codePointAt"), (2, u "length"), (67, .class_ 576), (0, u "java/lang/CharSequence"), (22, u "CASE_INSENSITIVE_ORDER"), (0, u "Ljava/util/Comparator;"), (164, u "(I)I"), (244, u "([C)V"), (42, .fieldref 1054 1055), (0, .class_ 1056), (0, .nameAndType 1057 1058), (0, u "jdk/internal/util/Preconditions"), (0, u "SIOOBE_FORMATTER"), (0, u "Ljava/util/function/BiFunction;"), (0, .methodref 1054 1060), (0, .nameAndType 501 1061), (0, u "(IILjava/util/function/BiFunction;)I"), (39, u "serialPersistentFields"), (0, u "[Ljava/io/ObjectStreamField;"), (0, .class_ 1104), (0, u "java/lang/String$CaseInsensitiveComparator"), (1, .class_ 1107), (0, u "java/io/Serializable"), (0, .class_ 1109), (0, u "java/lang/Comparable"), (0, .class_ 1111), (0, u "java/lang/constant/Constable"), (0, .class_ 1113), (0, u "java/lang/constant/ConstantDesc"), (2, u "serialVersionUID"), (0, u "J"), (3, u "REPL"), (0, u "C"), (2, u "LATIN1"), (1, u "UTF16")] 323

def k7m0 : Method := { name := "<init>", desc := "()V", sig := { parameters := [], returnType := none }, accessFlags := 1, code := none }
def k7c1 : Code := { maxStack := 5, maxLocals := 2, code := jdk_42_method_3_code, exceptionTable := #[], attributes := #[] }
def k7m1 : Method := { name := "<init>", desc := "([C)V", sig := { parameters := [(.array .char)], returnType := none }, accessFlags := 1, code := some k7c1 }
def k7c2 : Code := { maxStack := 2, maxLocals := 1, code := jdk_42_method_54_code, exceptionTable := #[], attributes := #[] }
def k7m2 : Method := { name := "length", desc := "()I", sig := { parameters := [], returnType := some .int }, accessFlags := 1, code := some k7c2 }
def k7c3 : Code := { maxStack := 3, maxLocals := 3, code := jdk_42_method_57_code, exceptionTable := #[], attributes := #[] }
def k7m3 : Method := { name := "codePointAt", desc := "(I)I", sig := { parameters := [.int], returnType := some .int }, accessFlags := 1, code := some k7c3 }
def k7c4 : Code := { maxStack := 4, maxLocals := 6, code := jdk_42_method_149_code, exceptionTable := #[], attributes := #[] }
def k7m4 : Method := { name := "<init>", desc := "([CIILjava/lang/Void;)V", sig := { parameters := [(.array .char), .int, .int, (.object "java/lang/Void")], returnType := none }, accessFlags := 2, code := some k7c4 }
def k7c5 : Code := { maxStack := 1, maxLocals := 1, code := jdk_42_method_152_code, exceptionTable := #[], attributes := #[] }
def k7m5 : Method := { name := "coder", desc := "()B", sig := { parameters := [], returnType := some .byte }, accessFlags := 0, code := some k7c5 }
def k7c6 : Code := { maxStack := 1, maxLocals := 1, code := jdk_42_method_154_code, exceptionTable := #[], attributes := #[] }
def k7m6 : Method := { name := "isLatin1", desc := "()Z", sig := { parameters := [], returnType := some .boolean }, accessFlags := 0, code := some k7c6 }
def k7c7 : Code := { maxStack := 3, maxLocals := 2, code := jdk_42_method_155_code, exceptionTable := #[], attributes := #[] }
def k7m7 : Method := { name := "checkIndex", desc := "(II)V", sig := { parameters := [.int, .int], returnType := none }, accessFlags := 8, code := some k7c7 }
/-- java/lang/String -/
def k7 : Class := { plain "java/lang/String" (some 0) with
  accessFlags := 49
  interfaces := #[2, 3, 4, 5, 6]
  cf := some (fileOf pool7 10 #[.nestMembers #[1103]] #[⟨1, 5, 6, #[]⟩, ⟨1, 5, 1010, #[]⟩, ⟨1, 507, 334, #[]⟩, ⟨1, 504, 765, #[]⟩, ⟨2, 5, 29, #[]⟩, ⟨0, 17, 337, #[]⟩, ⟨0, 494, 142, #[]⟩, ⟨8, 501, 391, #[]⟩] 49 2 #[1106, 1108, 575, 1110, 1112] #[⟨18, 13, 14, #[]⟩, ⟨18, 17, 18, #[]⟩, ⟨2, 21, 22, #[]⟩, ⟨2, 25, 26, #[]⟩, ⟨26, 1116, 1117, #[]⟩, ⟨24, 40, 26, #[]⟩, ⟨26, 1101, 1102, #[]⟩, ⟨26, 1121, 1122, #[]⟩, ⟨25, 599, 600, #[]⟩, ⟨24, 1125, 18, #[]⟩, ⟨24, 1127, 18, #[]⟩])
  fields := #[⟨"value", (.array .byte), 18, 0, 0⟩, ⟨"coder", .byte, 18, 1, 0⟩, ⟨"hash", .int, 2, 2, 0⟩, ⟨"hashIsZero", .boolean, 2, 3, 0⟩, ⟨"serialVersionUID", .long, 26, 0, 0⟩, ⟨"COMPACT_STRINGS", .boolean, 24, 1, 0⟩, ⟨"serialPersistentFields", (.array (.object "java/io/ObjectStreamField")), 26, 2, 0⟩, ⟨"REPL", .char, 26, 3, 0⟩, ⟨"CASE_INSENSITIVE_ORDER", (.object "java/util/Comparator"), 25, 4, 0⟩, ⟨"LATIN1", .byte, 24, 5, 0⟩, ⟨"UTF16", .byte, 24, 6, 0⟩]
  methods := #[k7m0, k7m1, k7m2, k7m3, k7m4, k7m5, k7m6, k7m7]
  instanceTypes := #[(.array .byte), .byte, .int, .boolean]
  staticTypes := #[.long, .boolean, (.array (.object "java/io/ObjectStreamField")), .char, (.object "java/util/Comparator"), .byte, .byte]
  resolved := Array.replicate 1451 none
  statics := some 0 }

def pool8 : Array CpInfo := pool [(2, .class_ 4), (1, u "java/lang/Object"), (0, u "<init>"), (0, u "()V"), (0, .class_ 8), (0, u "java/lang/String"), (28, .methodref 7 38), (0, .nameAndType 39 40), (0, u "length"), (0, u "()I"), (5, .class_ 48), (1, u "java/lang/Character"), (9, .methodref 7 59), (0, .nameAndType 60 61), (0, u "codePointAt"), (0, u "(I)I"), (0, .methodref 63 64), (0, .class_ 65), (0, .nameAndType 66 67), (0, u "java/lang/Integer"), (0, u "compare"), (0, u "(II)I"), (0, .methodref 46 69), (0, .nameAndType 70 61), (0, u "charCount"), (0, .class_ 72), (0, u "com/example/countersign/countersign/Utf8"), (7, u "(Ljava/lang/String;Ljava/lang/String;)I")] 19

def k8m0 : Method := { name := "<init>", desc := "()V", sig := { parameters := [], returnType := none }, accessFlags := 2, code := none }
def k8c1 : Code := { maxStack := 3, maxLocals := 6, code := prog_10_method_4_code, exceptionTable := #[], attributes := #[] }
def k8m1 : Method := { name := "compare", desc := "(Ljava/lang/String;Ljava/lang/String;)I", sig := { parameters := [(.object "java/lang/String"), (.object "java/lang/String")], returnType := some .int }, accessFlags := 8, code := some k8c1 }
/-- com/example/countersign/countersign/Utf8 -/
def k8 : Class := { plain "com/example/countersign/countersign/Utf8" (some 0) with
  accessFlags := 48
  interfaces := #[]
  cf := some (fileOf pool8 71 #[] #[⟨2, 5, 6, #[]⟩, ⟨8, 66, 80, #[]⟩] 48 2 #[] #[])
  fields := #[]
  methods := #[k8m0, k8m1]
  instanceTypes := #[]
  staticTypes := #[]
  resolved := Array.replicate 100 none
  statics := none }

def pool9 : Array CpInfo := pool [(2, .class_ 4), (1, u "java/lang/Object"), (0, u "<init>"), (0, u "()V"), (1, .class_ 10), (1, u "java/lang/Number"), (2, .class_ 14), (0, u "java/io/Serializable"), (0, u "serialVersionUID"), (0, u "J")] 20

def k9m0 : Method := { name := "<init>", desc := "()V", sig := { parameters := [], returnType := none }, accessFlags := 1, code := none }
/-- java/lang/Number -/
def k9 : Class := { plain "java/lang/Number" (some 0) with
  accessFlags := 1057
  interfaces := #[2]
  cf := some (fileOf pool9 8 #[] #[⟨1, 5, 6, #[]⟩] 1057 2 #[13] #[⟨26, 15, 16, #[]⟩])
  fields := #[⟨"serialVersionUID", .long, 26, 0, 0⟩]
  methods := #[k9m0]
  instanceTypes := #[]
  staticTypes := #[.long]
  resolved := Array.replicate 37 none
  statics := none }

def pool10 : Array CpInfo := pool [(1, .class_ 2), (0, u "java/lang/Integer"), (16, u "digits"), (0, u "[C"), (39, u "(II)I"), (24, u "DigitOnes"), (0, u "[B"), (2, u "DigitTens"), (99, .class_ 190), (0, u "java/lang/Integer$IntegerCache"), (3, u "I"), (8, .class_ 204), (0, u "java/lang/Number"), (2, u "value"), (53, u "compare"), (40, u "TYPE"), (0, u "Ljava/lang/Class;"), (0, .class_ 305), (0, u "java/lang/Comparable"), (0, .class_ 307), (0, u "java/lang/constant/Constable"), (0, .class_ 309), (0, u "java/lang/constant/ConstantDesc"), (0, u "MIN_VALUE"), (1, u "MAX_VALUE"), (3, u "SIZE"), (1, u "BYTES"), (1, u "serialVersionUID"), (0, u "J")] 131

def k10c0 : Code := { maxStack := 2, maxLocals := 2, code := jdk_33_method_40_code, exceptionTable := #[], attributes := #[] }
def k10m0 : Method := { name := "compare", desc := "(II)I", sig := { parameters := [.int, .int], returnType := some .int }, accessFlags := 9, code := some k10c0 }
/-- java/lang/Integer -/
def k10 : Class := { plain "java/lang/Integer" (some 9) with
  accessFlags := 49
  interfaces := #[3, 5, 6]
  cf := some (fileOf pool10 1 #[.nestMembers #[189]] #[⟨9, 261, 60, #[]⟩] 49 203 #[304, 306, 308] #[⟨25, 310, 194, #[]⟩, ⟨25, 312, 194, #[]⟩, ⟨25, 302, 303, #[]⟩, ⟨24, 19, 20, #[]⟩, ⟨24, 89, 86, #[]⟩, ⟨24, 85, 86, #[]⟩, ⟨18, 207, 194, #[]⟩, ⟨25, 316, 194, #[]⟩, ⟨25, 318, 194, #[]⟩, ⟨26, 320, 321, #[]⟩])
  fields := #[⟨"MIN_VALUE", .int, 25, 0, 0⟩, ⟨"MAX_VALUE", .int, 25, 1, 0⟩, ⟨"TYPE", (.object "java/lang/Class"), 25, 2, 0⟩, ⟨"digits", (.array .char), 24, 3, 0⟩, ⟨"DigitTens", (.array .byte), 24, 4, 0⟩, ⟨"DigitOnes", (.array .byte), 24, 5, 0⟩, ⟨"value", .int, 18, 0, 0⟩, ⟨"SIZE", .int, 25, 6, 0⟩, ⟨"BYTES", .int, 25, 7, 0⟩, ⟨"serialVersionUID", .long, 26, 8, 0⟩]
  methods := #[k10m0]
  instanceTypes := #[.int]
  staticTypes := #[.int, .int, (.object "java/lang/Class"), (.array .char), (.array .byte), (.array .byte), .int, .int, .long]
  resolved := Array.replicate 453 none
  statics := none }

def pool11 : Array CpInfo := pool [(6, .class_ 8), (1, u "java/lang/Object"), (0, u "<init>"), (0, u "()V"), (0, .methodref 12 13), (0, .class_ 14), (0, .nameAndType 15 16), (0, u "java/lang/StringUTF16"), (0, u "newBytesLength"), (0, u "(I)I"), (3, .integer 1073741823), (23, .fieldref 12 45), (0, .nameAndType 46 47), (0, u "$assertionsDisabled"), (0, u "Z"), (11, .fieldref 12 60), (0, .nameAndType 61 62), (0, u "HI_BYTE_SHIFT"), (0, u "I"), (0, .fieldref 12 64), (0, .nameAndType 65 62), (0, u "LO_BYTE_SHIFT"), (5, .methodref 12 72), (0, .nameAndType 73 74), (0, u "getChar"), (0, u "([BI)C"), (0, .methodref 76 77), (0, .class_ 78), (0, .nameAndType 79 80), (0, u "java/lang/Character"), (0, u "isHighSurrogate"), (0, u "(C)Z"), (0, .methodref 76 82), (0, .nameAndType 83 80), (0, u "isLowSurrogate"), (0, .methodref 76 85), (0, .nameAndType 86 87), (0, u "toCodePoint"), (0, u "(CC)I"), (0, .methodref 12 89), (0, .nameAndType 90 91), (0, u "codePointAt"), (0, u "([BIIZ)I"), (15, .methodref 12 108), (0, .nameAndType 109 110), (0, u "newBytesFor"), (0, u "(I)[B"), (0, .methodref 12 112), (0, .nameAndType 113 114), (0, u "putChar"), (0, u "([BII)V"), (0, .methodref 12 116), (0, .nameAndType 117 118), (0, u "compress"), (0, u "([CI[BII)I"), (0, .methodref 12 120), (0, .nameAndType 121 122), (0, u "toBytes"), (0, u "([CII)[B"), (127, u "([BII)I"), (10, u "coderFromArrayLen"), (0, u "([BI)B"), (106, .class_ 371), (1, u "java/lang/StringUTF16$LinesSpliterator"), (58, u "MAX_LENGTH"), (196, .class_ 628), (0, u "java/lang/StringUTF16$CodePointsSpliterator"), (0, .class_ 630), (0, u "java/lang/StringUTF16$CharsSpliterator")] 4

def k11m0 : Method := { name := "<init>", desc := "()V", sig := { parameters := [], returnType := none }, accessFlags := 0, code := none }
def k11c1 : Code := { maxStack := 1, maxLocals := 1, code := jdk_52_method_2_code, exceptionTable := #[], attributes := #[] }
def k11m1 : Method := { name := "newBytesFor", desc := "(I)[B", sig := { parameters := [.int], returnType := some (.array .byte) }, accessFlags := 9, code := some k11c1 }
def k11c2 : Code := { maxStack := 4, maxLocals := 1, code := jdk_52_method_3_code, exceptionTable := #[], attributes := #[] }
def k11m2 : Method := { name := "newBytesLength", desc := "(I)I", sig := { parameters := [.int], returnType := some .int }, accessFlags := 9, code := some k11c2 }
def k11c3 : Code := { maxStack := 4, maxLocals := 3, code := jdk_52_method_4_code, exceptionTable := #[], attributes := #[] }
def k11m3 : Method := { name := "putChar", desc := "([BII)V", sig := { parameters := [(.array .byte), .int, .int], returnType := none }, accessFlags := 8, code := some k11c3 }
def k11c4 : Code := { maxStack := 3, maxLocals := 2, code := jdk_52_method_5_code, exceptionTable := #[], attributes := #[] }
def k11m4 : Method := { name := "getChar", desc := "([BI)C", sig := { parameters := [(.array .byte), .int], returnType := some .char }, accessFlags := 8, code := some k11c4 }
def k11c5 : Code := { maxStack := 2, maxLocals := 6, code := jdk_52_method_7_code, exceptionTable := #[], attributes := #[] }
def k11m5 : Method := { name := "codePointAt", desc := "([BIIZ)I", sig := { parameters := [(.array .byte), .int, .int, .boolean], returnType := some .int }, accessFlags := 10, code := some k11c5 }
def k11c6 : Code := { maxStack := 4, maxLocals := 3, code := jdk_52_method_8_code, exceptionTable := #[], attributes := #[] }
def k11m6 : Method := { name := "codePointAt", desc := "([BII)I", sig := { parameters := [(.array .byte), .int, .int], returnType := some .int }, accessFlags := 9, code := some k11c6 }
def k11c7 : Code := { maxStack := 4, maxLocals := 5, code := jdk_52_method_14_code, exceptionTable := #[], attributes := #[] }
def k11m7 : Method := { name := "toBytes", desc := "([CII)[B", sig := { parameters := [(.array .char), .int, .int], returnType := some (.array .byte) }, accessFlags := 9, code := some k11c7 }
def k11c8 : Code := { maxStack := 2, maxLocals := 2, code := jdk_52_method_15_code, exceptionTable := #[], attributes := #[] }
def k11m8 : Method := { name := "coderFromArrayLen", desc := "([BI)B", sig := { parameters := [(.array .byte), .int], returnType := some .byte }, accessFlags := 8, code := some k11c8 }
def k11c9 : Code := { maxStack := 5, maxLocals := 6, code := jdk_52_method_16_code, exceptionTable := #[], attributes := #[] }
def k11m9 : Method := { name := "compress", desc := "([CII)[B", sig := { parameters := [(.array .char), .int, .int], returnType := some (.array .byte) }, accessFlags := 9, code := some k11c9 }
def k11c10 : Code := { maxStack := 3, maxLocals := 7, code := jdk_52_method_21_code, exceptionTable := #[], attributes := #[] }
def k11m10 : Method := { name := "compress", desc := "([CI[BII)I", sig := { parameters := [(.array .char), .int, (.array .byte), .int, .int], returnType := some .int }, accessFlags := 9, code := some k11c10 }
/-- java/lang/StringUTF16 -/
def k11 : Class := { plain "java/lang/StringUTF16" (some 0) with
  accessFlags := 48
  interfaces := #[]
  cf := some (fileOf pool11 12 #[.nestMembers #[627, 629, 369]] #[⟨0, 9, 10, #[]⟩, ⟨9, 109, 110, #[]⟩, ⟨9, 15, 16, #[]⟩, ⟨8, 113, 114, #[]⟩, ⟨8, 73, 74, #[]⟩, ⟨10, 90, 91, #[]⟩, ⟨9, 90, 250, #[]⟩, ⟨9, 121, 122, #[]⟩, ⟨8, 261, 262, #[]⟩, ⟨9, 117, 122, #[]⟩, ⟨9, 117, 118, #[]⟩] 48 6 #[] #[⟨26, 61, 62, #[]⟩, ⟨26, 65, 62, #[]⟩, ⟨24, 430, 62, #[]⟩, ⟨4120, 46, 47, #[]⟩])
  fields := #[⟨"HI_BYTE_SHIFT", .int, 26, 0, 0⟩, ⟨"LO_BYTE_SHIFT", .int, 26, 1, 0⟩, ⟨"MAX_LENGTH", .int, 24, 2, 0⟩, ⟨"$assertionsDisabled", .boolean, 4120, 3, 0⟩]
  methods := #[k11m0, k11m1, k11m2, k11m3, k11m4, k11m5, k11m6, k11m7, k11m8, k11m9, k11m10]
  instanceTypes := #[]
  staticTypes := #[.int, .int, .int, .boolean]
  resolved := Array.replicate 635 none
  statics := some 1 }

def pool12 : Array CpInfo := pool [(2, .class_ 4), (1, u "java/lang/Object"), (0, u "<init>"), (0, u "()V"), (17, .class_ 26), (1, u "jdk/internal/util/Preconditions"), (6, u "checkIndex"), (21, .class_ 56), (0, u "jdk/internal/util/Preconditions$4"), (57, .class_ 115), (0, u "jdk/internal/util/Preconditions$1"), (7, u "SIOOBE_FORMATTER"), (0, u "Ljava/util/function/BiFunction;"), (0, .class_ 126), (0, u "jdk/internal/util/Preconditions$2"), (3, u "AIOOBE_FORMATTER"), (0, .class_ 132), (0, u "jdk/internal/util/Preconditions$3"), (3, u "IOOBE_FORMATTER"), (41, u "(IILjava/util/function/BiFunction;)I")] 15

def k12m0 : Method := { name := "<init>", desc := "()V", sig := { parameters := [], returnType := none }, accessFlags := 1, code := none }
def k12c1 : Code := { maxStack := 3, maxLocals := 3, code := jdk_41_method_11_code, exceptionTable := #[], attributes := #[] }
def k12m1 : Method := { name := "checkIndex", desc := "(IILjava/util/function/BiFunction;)I", sig := { parameters := [.int, .int, (.object "java/util/function/BiFunction")], returnType := some .int }, accessFlags := 9, code := some k12c1 }
/-- jdk/internal/util/Preconditions -/
def k12 : Class := { plain "jdk/internal/util/Preconditions" (some 0) with
  accessFlags := 33
  interfaces := #[]
  cf := some (fileOf pool12 24 #[.nestMembers #[55, 131, 125, 114]] #[⟨1, 5, 6, #[]⟩, ⟨9, 33, 178, #[]⟩] 33 2 #[] #[⟨25, 123, 124, #[]⟩, ⟨25, 130, 124, #[]⟩, ⟨25, 136, 124, #[]⟩])
  fields := #[⟨"SIOOBE_FORMATTER", (.object "java/util/function/BiFunction"), 25, 0, 0⟩, ⟨"AIOOBE_FORMATTER", (.object "java/util/function/BiFunction"), 25, 1, 0⟩, ⟨"IOOBE_FORMATTER", (.object "java/util/function/BiFunction"), 25, 2, 0⟩]
  methods := #[k12m0, k12m1]
  instanceTypes := #[]
  staticTypes := #[(.object "java/util/function/BiFunction"), (.object "java/util/function/BiFunction"), (.object "java/util/function/BiFunction")]
  resolved := Array.replicate 194 none
  statics := some 2 }

def pool13 : Array CpInfo := pool [(1, .class_ 2), (0, u "java/lang/Character"), (18, u "value"), (0, u "C"), (19, .class_ 44), (1, u "java/lang/Object"), (3, .class_ 50), (1, u "java/lang/Character$CharacterCache"), (22, .integer 65536), (1, .integer 55296), (0, .integer 56320), (0, .integer 57344), (2, u "isHighSurrogate"), (0, u "(C)Z"), (2, u "isLowSurrogate"), (0, .integer 4238353408), (12, u "toCodePoint"), (0, u "(CC)I"), (74, u "(I)I"), (109, u "$assertionsDisabled"), (0, u "Z"), (21, .class_ 309), (1, u "java/lang/Character$UnicodeBlock"), (73, u "TYPE"), (0, u "Ljava/lang/Class;"), (0, .class_ 386), (0, u "java/io/Serializable"), (0, .class_ 388), (0, u "java/lang/Comparable"), (0, .class_ 390), (0, u "java/lang/constant/Constable"), (0, u "MIN_RADIX"), (0, u "I"), (2, u "MAX_RADIX"), (1, u "MIN_VALUE"), (1, u "MAX_VALUE"), (3, u "UNASSIGNED"), (0, u "B"), (0, u "UPPERCASE_LETTER"), (1, u "LOWERCASE_LETTER"), (0, u "TITLECASE_LETTER"), (1, u "MODIFIER_LETTER"), (1, u "OTHER_LETTER"), (1, u "NON_SPACING_MARK"), (1, u "ENCLOSING_MARK"), (1, u "COMBINING_SPACING_MARK"), (1, u "DECIMAL_DIGIT_NUMBER"), (1, u "LETTER_NUMBER"), (1, u "OTHER_NUMBER"), (1, u "SPACE_SEPARATOR"), (1, u "LINE_SEPARATOR"), (1, u "PARAGRAPH_SEPARATOR"), (1, u "CONTROL"), (1, u "FORMAT"), (1, u "PRIVATE_USE"), (1, u "SURROGATE"), (1, u "DASH_PUNCTUATION"), (1, u "START_PUNCTUATION"), (1, u "END_PUNCTUATION"), (1, u "CONNECTOR_PUNCTUATION"), (1, u "OTHER_PUNCTUATION"), (1, u "MATH_SYMBOL"), (1, u "CURRENCY_SYMBOL"), (1, u "MODIFIER_SYMBOL"), (1, u "OTHER_SYMBOL"), (1, u "INITIAL_QUOTE_PUNCTUATION"), (1, u "FINAL_QUOTE_PUNCTUATION"), (1, u "ERROR"), (1, u "DIRECTIONALITY_UNDEFINED"), (0, u "DIRECTIONALITY_LEFT_TO_RIGHT"), (0, u "DIRECTIONALITY_RIGHT_TO_LEFT"), (0, u "DIRECTIONALITY_RIGHT_TO_LEFT_ARABIC"), (0, u "DIRECTIONALITY_EUROPEAN_NUMBER"), (0, u "DIRECTIONALITY_EUROPEAN_NUMBER_SEPARATOR"), (0, u "DIRECTIONALITY_EUROPEAN_NUMBER_TERMINATOR"), (0, u "DIRECTIONALITY_ARABIC_NUMBER"), (0, u "DIRECTIONALITY_COMMON_NUMBER_SEPARATOR"), (0, u "DIRECTIONALITY_NONSPACING_MARK"), (0, u "DIRECTIONALITY_BOUNDARY_NEUTRAL"), (0, u "DIRECTIONALITY_PARAGRAPH_SEPARATOR"), (0, u "DIRECTIONALITY_SEGMENT_SEPARATOR"), (0, u "DIRECTIONALITY_WHITESPACE"), (0, u "DIRECTIONALITY_OTHER_NEUTRALS"), (0, u "DIRECTIONALITY_LEFT_TO_RIGHT_EMBEDDING"), (0, u "DIRECTIONALITY_LEFT_TO_RIGHT_OVERRIDE"), (0, u "DIRECTIONALITY_RIGHT_TO_LEFT_EMBEDDING"), (0, u "DIRECTIONALITY_RIGHT_TO_LEFT_OVERRIDE"), (1, u "DIRECTIONALITY_POP_DIRECTIONAL_FORMAT"), (0, u "DIRECTIONALITY_LEFT_TO_RIGHT_ISOLATE"), (0, u "DIRECTIONALITY_RIGHT_TO_LEFT_ISOLATE"), (0, u "DIRECTIONALITY_FIRST_STRONG_ISOLATE"), (0, u "DIRECTIONALITY_POP_DIRECTIONAL_ISOLATE"), (0, u "MIN_HIGH_SURROGATE"), (0, u "MAX_HIGH_SURROGATE"), (1, u "MIN_LOW_SURROGATE"), (0, u "MAX_LOW_SURROGATE"), (1, u "MIN_SURROGATE"), (0, u "MAX_SURROGATE"), (0, u "MIN_SUPPLEMENTARY_CODE_POINT"), (0, u "MIN_CODE_POINT"), (0, u "MAX_CODE_POINT"), (1, u "serialVersionUID"), (0, u "J"), (2, u "SIZE"), (0, u "BYTES"), (29, u "charCount"), (58, .class_ 596), (0, u "java/lang/Character$UnicodeScript"), (0, .class_ 598), (0, u "java/lang/Character$Subset")] 5

def k13c0 : Code := { maxStack := 2, maxLocals := 1, code := jdk_89_method_14_code, exceptionTable := #[], attributes := #[] }
def k13m0 : Method := { name := "isHighSurrogate", desc := "(C)Z", sig := { parameters := [.char], returnType := some .boolean }, accessFlags := 9, code := some k13c0 }
def k13c1 : Code := { maxStack := 2, maxLocals := 1, code := jdk_89_method_15_code, exceptionTable := #[], attributes := #[] }
def k13m1 : Method := { name := "isLowSurrogate", desc := "(C)Z", sig := { parameters := [.char], returnType := some .boolean }, accessFlags := 9, code := some k13c1 }
def k13c2 : Code := { maxStack := 2, maxLocals := 1, code := jdk_89_method_18_code, exceptionTable := #[], attributes := #[] }
def k13m2 : Method := { name := "charCount", desc := "(I)I", sig := { parameters := [.int], returnType := some .int }, accessFlags := 9, code := some k13c2 }
def k13c3 : Code := { maxStack := 2, maxLocals := 2, code := jdk_89_method_19_code, exceptionTable := #[], attributes := #[] }
def k13m3 : Method := { name := "toCodePoint", desc := "(CC)I", sig := { parameters := [.char, .char], returnType := some .int }, accessFlags := 9, code := some k13c3 }
/-- java/lang/Character -/
def k13 : Class := { plain "java/lang/Character" (some 0) with
  accessFlags := 49
  interfaces := #[2, 3, 5]
  cf := some (fileOf pool13 1 #[.nestMembers #[48, 595, 307, 597]] #[⟨9, 80, 81, #[]⟩, ⟨9, 84, 81, #[]⟩, ⟨9, 536, 174, #[]⟩, ⟨9, 98, 99, #[]⟩] 49 42 #[385, 387, 389] #[⟨25, 391, 392, #[]⟩, ⟨25, 395, 392, #[]⟩, ⟨25, 397, 22, #[]⟩, ⟨25, 399, 22, #[]⟩, ⟨25, 383, 384, #[]⟩, ⟨25, 403, 404, #[]⟩, ⟨25, 405, 404, #[]⟩, ⟨25, 407, 404, #[]⟩, ⟨25, 408, 404, #[]⟩, ⟨25, 410, 404, #[]⟩, ⟨25, 412, 404, #[]⟩, ⟨25, 414, 404, #[]⟩, ⟨25, 416, 404, #[]⟩, ⟨25, 418, 404, #[]⟩, ⟨25, 420, 404, #[]⟩, ⟨25, 422, 404, #[]⟩, ⟨25, 424, 404, #[]⟩, ⟨25, 426, 404, #[]⟩, ⟨25, 428, 404, #[]⟩, ⟨25, 430, 404, #[]⟩, ⟨25, 432, 404, #[]⟩, ⟨25, 434, 404, #[]⟩, ⟨25, 436, 404, #[]⟩, ⟨25, 438, 404, #[]⟩, ⟨25, 440, 404, #[]⟩, ⟨25, 442, 404, #[]⟩, ⟨25, 444, 404, #[]⟩, ⟨25, 446, 404, #[]⟩, ⟨25, 448, 404, #[]⟩, ⟨25, 450, 404, #[]⟩, ⟨25, 452, 404, #[]⟩, ⟨25, 454, 404, #[]⟩, ⟨25, 456, 404, #[]⟩, ⟨25, 458, 404, #[]⟩, ⟨25, 460, 404, #[]⟩, ⟨24, 462, 392, #[]⟩, ⟨25, 464, 404, #[]⟩, ⟨25, 465, 404, #[]⟩, ⟨25, 466, 404, #[]⟩, ⟨25, 467, 404, #[]⟩, ⟨25, 468, 404, #[]⟩, ⟨25, 469, 404, #[]⟩, ⟨25, 470, 404, #[]⟩, ⟨25, 471, 404, #[]⟩, ⟨25, 472, 404, #[]⟩, ⟨25, 473, 404, #[]⟩, ⟨25, 474, 404, #[]⟩, ⟨25, 475, 404, #[]⟩, ⟨25, 476, 404, #[]⟩, ⟨25, 477, 404, #[]⟩, ⟨25, 478, 404, #[]⟩, ⟨25, 479, 404, #[]⟩, ⟨25, 480, 404, #[]⟩, ⟨25, 481, 404, #[]⟩, ⟨25, 482, 404, #[]⟩, ⟨25, 484, 404, #[]⟩, ⟨25, 485, 404, #[]⟩, ⟨25, 486, 404, #[]⟩, ⟨25, 487, 404, #[]⟩, ⟨25, 488, 404, #[]⟩, ⟨25, 489, 22, #[]⟩, ⟨25, 490, 22, #[]⟩, ⟨25, 492, 22, #[]⟩, ⟨25, 493, 22, #[]⟩, ⟨25, 495, 22, #[]⟩, ⟨25, 496, 22, #[]⟩, ⟨25, 497, 392, #[]⟩, ⟨25, 498, 392, #[]⟩, ⟨25, 499, 392, #[]⟩, ⟨18, 21, 22, #[]⟩, ⟨26, 501, 502, #[]⟩, ⟨25, 505, 392, #[]⟩, ⟨25, 506, 392, #[]⟩, ⟨4120, 284, 285, #[]⟩])
  fields := #[⟨"MIN_RADIX", .int, 25, 0, 0⟩, ⟨"MAX_RADIX", .int, 25, 1, 0⟩, ⟨"MIN_VALUE", .char, 25, 2, 0⟩, ⟨"MAX_VALUE", .char, 25, 3, 0⟩, ⟨"TYPE", (.object "java/lang/Class"), 25, 4, 0⟩, ⟨"UNASSIGNED", .byte, 25, 5, 0⟩, ⟨"UPPERCASE_LETTER", .byte, 25, 6, 0⟩, ⟨"LOWERCASE_LETTER", .byte, 25, 7, 0⟩, ⟨"TITLECASE_LETTER", .byte, 25, 8, 0⟩, ⟨"MODIFIER_LETTER", .byte, 25, 9, 0⟩, ⟨"OTHER_LETTER", .byte, 25, 10, 0⟩, ⟨"NON_SPACING_MARK", .byte, 25, 11, 0⟩, ⟨"ENCLOSING_MARK", .byte, 25, 12, 0⟩, ⟨"COMBINING_SPACING_MARK", .byte, 25, 13, 0⟩, ⟨"DECIMAL_DIGIT_NUMBER", .byte, 25, 14, 0⟩, ⟨"LETTER_NUMBER", .byte, 25, 15, 0⟩, ⟨"OTHER_NUMBER", .byte, 25, 16, 0⟩, ⟨"SPACE_SEPARATOR", .byte, 25, 17, 0⟩, ⟨"LINE_SEPARATOR", .byte, 25, 18, 0⟩, ⟨"PARAGRAPH_SEPARATOR", .byte, 25, 19, 0⟩, ⟨"CONTROL", .byte, 25, 20, 0⟩, ⟨"FORMAT", .byte, 25, 21, 0⟩, ⟨"PRIVATE_USE", .byte, 25, 22, 0⟩, ⟨"SURROGATE", .byte, 25, 23, 0⟩, ⟨"DASH_PUNCTUATION", .byte, 25, 24, 0⟩, ⟨"START_PUNCTUATION", .byte, 25, 25, 0⟩, ⟨"END_PUNCTUATION", .byte, 25, 26, 0⟩, ⟨"CONNECTOR_PUNCTUATION", .byte, 25, 27, 0⟩, ⟨"OTHER_PUNCTUATION", .byte, 25, 28, 0⟩, ⟨"MATH_SYMBOL", .byte, 25, 29, 0⟩, ⟨"CURRENCY_SYMBOL", .byte, 25, 30, 0⟩, ⟨"MODIFIER_SYMBOL", .byte, 25, 31, 0⟩, ⟨"OTHER_SYMBOL", .byte, 25, 32, 0⟩, ⟨"INITIAL_QUOTE_PUNCTUATION", .byte, 25, 33, 0⟩, ⟨"FINAL_QUOTE_PUNCTUATION", .byte, 25, 34, 0⟩, ⟨"ERROR", .int, 24, 35, 0⟩, ⟨"DIRECTIONALITY_UNDEFINED", .byte, 25, 36, 0⟩, ⟨"DIRECTIONALITY_LEFT_TO_RIGHT", .byte, 25, 37, 0⟩, ⟨"DIRECTIONALITY_RIGHT_TO_LEFT", .byte, 25, 38, 0⟩, ⟨"DIRECTIONALITY_RIGHT_TO_LEFT_ARABIC", .byte, 25, 39, 0⟩, ⟨"DIRECTIONALITY_EUROPEAN_NUMBER", .byte, 25, 40, 0⟩, ⟨"DIRECTIONALITY_EUROPEAN_NUMBER_SEPARATOR", .byte, 25, 41, 0⟩, ⟨"DIRECTIONALITY_EUROPEAN_NUMBER_TERMINATOR", .byte, 25, 42, 0⟩, ⟨"DIRECTIONALITY_ARABIC_NUMBER", .byte, 25, 43, 0⟩, ⟨"DIRECTIONALITY_COMMON_NUMBER_SEPARATOR", .byte, 25, 44, 0⟩, ⟨"DIRECTIONALITY_NONSPACING_MARK", .byte, 25, 45, 0⟩, ⟨"DIRECTIONALITY_BOUNDARY_NEUTRAL", .byte, 25, 46, 0⟩, ⟨"DIRECTIONALITY_PARAGRAPH_SEPARATOR", .byte, 25, 47, 0⟩, ⟨"DIRECTIONALITY_SEGMENT_SEPARATOR", .byte, 25, 48, 0⟩, ⟨"DIRECTIONALITY_WHITESPACE", .byte, 25, 49, 0⟩, ⟨"DIRECTIONALITY_OTHER_NEUTRALS", .byte, 25, 50, 0⟩, ⟨"DIRECTIONALITY_LEFT_TO_RIGHT_EMBEDDING", .byte, 25, 51, 0⟩, ⟨"DIRECTIONALITY_LEFT_TO_RIGHT_OVERRIDE", .byte, 25, 52, 0⟩, ⟨"DIRECTIONALITY_RIGHT_TO_LEFT_EMBEDDING", .byte, 25, 53, 0⟩, ⟨"DIRECTIONALITY_RIGHT_TO_LEFT_OVERRIDE", .byte, 25, 54, 0⟩, ⟨"DIRECTIONALITY_POP_DIRECTIONAL_FORMAT", .byte, 25, 55, 0⟩, ⟨"DIRECTIONALITY_LEFT_TO_RIGHT_ISOLATE", .byte, 25, 56, 0⟩, ⟨"DIRECTIONALITY_RIGHT_TO_LEFT_ISOLATE", .byte, 25, 57, 0⟩, ⟨"DIRECTIONALITY_FIRST_STRONG_ISOLATE", .byte, 25, 58, 0⟩, ⟨"DIRECTIONALITY_POP_DIRECTIONAL_ISOLATE", .byte, 25, 59, 0⟩, ⟨"MIN_HIGH_SURROGATE", .char, 25, 60, 0⟩, ⟨"MAX_HIGH_SURROGATE", .char, 25, 61, 0⟩, ⟨"MIN_LOW_SURROGATE", .char, 25, 62, 0⟩, ⟨"MAX_LOW_SURROGATE", .char, 25, 63, 0⟩, ⟨"MIN_SURROGATE", .char, 25, 64, 0⟩, ⟨"MAX_SURROGATE", .char, 25, 65, 0⟩, ⟨"MIN_SUPPLEMENTARY_CODE_POINT", .int, 25, 66, 0⟩, ⟨"MIN_CODE_POINT", .int, 25, 67, 0⟩, ⟨"MAX_CODE_POINT", .int, 25, 68, 0⟩, ⟨"value", .char, 18, 0, 0⟩, ⟨"serialVersionUID", .long, 26, 69, 0⟩, ⟨"SIZE", .int, 25, 70, 0⟩, ⟨"BYTES", .int, 25, 71, 0⟩, ⟨"$assertionsDisabled", .boolean, 4120, 72, 0⟩]
  methods := #[k13m0, k13m1, k13m2, k13m3]
  instanceTypes := #[.char]
  staticTypes := #[.int, .int, .char, .char, (.object "java/lang/Class"), .byte, .byte, .byte, .byte, .byte, .byte, .byte, .byte, .byte, .byte, .byte, .byte, .byte, .byte, .byte, .byte, .byte, .byte, .byte, .byte, .byte, .byte, .byte, .byte, .byte, .byte, .byte, .byte, .byte, .byte, .int, .byte, .byte, .byte, .byte, .byte, .byte, .byte, .byte, .byte, .byte, .byte, .byte, .byte, .byte, .byte, .byte, .byte, .byte, .byte, .byte, .byte, .byte, .byte, .byte, .char, .char, .char, .char, .char, .char, .int, .int, .int, .long, .int, .int, .boolean]
  resolved := Array.replicate 604 none
  statics := none }

def pool14 : Array CpInfo := pool [(4, .class_ 6), (1, u "java/lang/Object"), (0, u "<init>"), (0, u "()V"), (5, .class_ 16), (1, u "java/lang/StringLatin1"), (104, u "$assertionsDisabled"), (0, u "Z"), (98, .class_ 223), (1, u "java/lang/StringLatin1$LinesSpliterator"), (166, .class_ 391), (0, u "java/lang/StringLatin1$CharsSpliterator")] 3

def k14m0 : Method := { name := "<init>", desc := "()V", sig := { parameters := [], returnType := none }, accessFlags := 0, code := none }
/-- java/lang/StringLatin1 -/
def k14 : Class := { plain "java/lang/StringLatin1" (some 0) with
  accessFlags := 48
  interfaces := #[]
  cf := some (fileOf pool14 14 #[.nestMembers #[390, 221]] #[⟨0, 7, 8, #[]⟩] 48 4 #[] #[⟨4120, 121, 122, #[]⟩])
  fields := #[⟨"$assertionsDisabled", .boolean, 4120, 0, 0⟩]
  methods := #[k14m0]
  instanceTypes := #[]
  staticTypes := #[.boolean]
  resolved := Array.replicate 395 none
  statics := none }

def pool15 : Array CpInfo := pool [(9, u "<init>"), (6, .class_ 18), (1, u "java/lang/Object"), (0, u "()V"), (1, .class_ 23), (1, u "jdk/internal/util/ArraysSupport"), (0, u "LOG2_ARRAY_LONG_INDEX_SCALE"), (0, u "I"), (2, u "U"), (0, u "Ljdk/internal/misc/Unsafe;"), (8, u "BIG_ENDIAN"), (0, u "Z"), (8, u "LOG2_BYTE_BIT_SIZE"), (4, u "LOG2_ARRAY_INT_INDEX_SCALE"), (54, u "JLA"), (0, u "Ljdk/internal/access/JavaLangAccess;"), (11, u "LOG2_ARRAY_BOOLEAN_INDEX_SCALE"), (9, u "LOG2_ARRAY_BYTE_INDEX_SCALE"), (5, u "LOG2_ARRAY_CHAR_INDEX_SCALE"), (5, u "LOG2_ARRAY_SHORT_INDEX_SCALE"), (18, u "LOG2_ARRAY_FLOAT_INDEX_SCALE"), (24, u "LOG2_ARRAY_DOUBLE_INDEX_SCALE"), (89, u "T_BOOLEAN"), (2, u "T_CHAR"), (1, u "T_FLOAT"), (1, u "T_DOUBLE"), (1, u "T_BYTE"), (1, u "T_SHORT"), (1, u "T_INT"), (1, u "T_LONG"), (1, u "SOFT_MAX_ARRAY_LENGTH")] 83

def k15m0 : Method := { name := "<init>", desc := "()V", sig := { parameters := [], returnType := none }, accessFlags := 2, code := none }
/-- jdk/internal/util/ArraysSupport -/
def k15 : Class := { plain "jdk/internal/util/ArraysSupport" (some 0) with
  accessFlags := 33
  interfaces := #[]
  cf := some (fileOf pool15 21 #[] #[⟨2, 9, 19, #[]⟩] 33 16 #[] #[⟨24, 28, 29, #[]⟩, ⟨26, 38, 39, #[]⟩, ⟨25, 121, 25, #[]⟩, ⟨25, 131, 25, #[]⟩, ⟨25, 137, 25, #[]⟩, ⟨25, 143, 25, #[]⟩, ⟨25, 53, 25, #[]⟩, ⟨25, 24, 25, #[]⟩, ⟨25, 162, 25, #[]⟩, ⟨25, 187, 25, #[]⟩, ⟨26, 48, 25, #[]⟩, ⟨25, 277, 25, #[]⟩, ⟨25, 280, 25, #[]⟩, ⟨25, 282, 25, #[]⟩, ⟨25, 284, 25, #[]⟩, ⟨25, 286, 25, #[]⟩, ⟨25, 288, 25, #[]⟩, ⟨25, 290, 25, #[]⟩, ⟨25, 292, 25, #[]⟩, ⟨26, 108, 109, #[]⟩, ⟨25, 294, 25, #[]⟩])
  fields := #[⟨"U", (.object "jdk/internal/misc/Unsafe"), 24, 0, 0⟩, ⟨"BIG_ENDIAN", .boolean, 26, 1, 0⟩, ⟨"LOG2_ARRAY_BOOLEAN_INDEX_SCALE", .int, 25, 2, 0⟩, ⟨"LOG2_ARRAY_BYTE_INDEX_SCALE", .int, 25, 3, 0⟩, ⟨"LOG2_ARRAY_CHAR_INDEX_SCALE", .int, 25, 4, 0⟩, ⟨"LOG2_ARRAY_SHORT_INDEX_SCALE", .int, 25, 5, 0⟩, ⟨"LOG2_ARRAY_INT_INDEX_SCALE", .int, 25, 6, 0⟩, ⟨"LOG2_ARRAY_LONG_INDEX_SCALE", .int, 25, 7, 0⟩, ⟨"LOG2_ARRAY_FLOAT_INDEX_SCALE", .int, 25, 8, 0⟩, ⟨"LOG2_ARRAY_DOUBLE_INDEX_SCALE", .int, 25, 9, 0⟩, ⟨"LOG2_BYTE_BIT_SIZE", .int, 26, 10, 0⟩, ⟨"T_BOOLEAN", .int, 25, 11, 0⟩, ⟨"T_CHAR", .int, 25, 12, 0⟩, ⟨"T_FLOAT", .int, 25, 13, 0⟩, ⟨"T_DOUBLE", .int, 25, 14, 0⟩, ⟨"T_BYTE", .int, 25, 15, 0⟩, ⟨"T_SHORT", .int, 25, 16, 0⟩, ⟨"T_INT", .int, 25, 17, 0⟩, ⟨"T_LONG", .int, 25, 18, 0⟩, ⟨"JLA", (.object "jdk/internal/access/JavaLangAccess"), 26, 19, 0⟩, ⟨"SOFT_MAX_ARRAY_LENGTH", .int, 25, 20, 0⟩]
  methods := #[k15m0]
  instanceTypes := #[]
  staticTypes := #[(.object "jdk/internal/misc/Unsafe"), .boolean, .int, .int, .int, .int, .int, .int, .int, .int, .int, .int, .int, .int, .int, .int, .int, .int, .int, (.object "jdk/internal/access/JavaLangAccess"), .int]
  resolved := Array.replicate 378 none
  statics := none }

def pool16 : Array CpInfo := pool [(1, u "java/lang/Cloneable"), (0, .class_ 1), (0, u "java/lang/Object"), (0, .class_ 3)] 3

/-- java/lang/Cloneable -/
def k16 : Class := { plain "java/lang/Cloneable" (some 0) with
  accessFlags := 1537
  interfaces := #[]
  cf := some (fileOf pool16 2 #[] #[] 1537 4 #[] #[])
  fields := #[]
  methods := #[]
  instanceTypes := #[]
  staticTypes := #[]
  resolved := Array.replicate 8 none
  statics := none }

/-- the primitive byte -/
def k17 : Class := { plain "byte" none with kind := .primitive 'B', accessFlags := 0x411 }
/-- [B -/
def k18 : Class := { plain "[B" (some 0) with kind := .array 17 .byte, interfaces := #[16, 2], accessFlags := 1041 }

/-- the primitive char -/
def k19 : Class := { plain "char" none with kind := .primitive 'C', accessFlags := 0x411 }
/-- [C -/
def k20 : Class := { plain "[C" (some 0) with kind := .array 19 .char, interfaces := #[16, 2], accessFlags := 1041 }

def heap : Heap := #[{ cls := 7, slots := #[.long 0, .int 1, .null, .int 0, .null, .int 0, .int 0], vm := .statics 7 },
  { cls := 11, slots := #[.int 0, .int 8, .int 0, .int 1], vm := .statics 11 },
  { cls := 12, slots := #[.null, .null, .null], vm := .statics 12 }]
def classes : Array Class := #[k0, k1, k2, k3, k4, k5, k6, k7, k8, k9, k10, k11, k12, k13, k14, k15, k16, k17, k18, k19, k20]
def interned : List (Array UInt16 × Addr) := []
def slotsUsed : Nat := 14
def theMethod : MethodId := ⟨1, 7⟩
def args0 : Array Value := #[.int 5, .int 6, .int 7, .int 8, .int 9]
def aboutOver (below : List Frame) : State where
  vm := { classes := classes, interned := interned.toArray }
  heap := heap
  slotsUsed := slotsUsed
  threads := #[{ frames := .invoking theMethod args0 :: below }]
def below0 : List Frame := [.native { method := ⟨0, 0⟩, args := #[] }]
def about1 : State := aboutOver below0
def p0 : Program := .bare "" "" ""
def e0 : Env := launch0.env 0 0 0
theorem w_frames : about1.frames = Frame.invoking theMethod args0 :: below0 := rfl
set_option maxRecDepth 65536 in
theorem w_args : argsFit about1.vm theMethod args0 = true := by decide +kernel
set_option maxRecDepth 65536 in
theorem w_heap : heapFits about1 = true := by decide +kernel
set_option maxRecDepth 65536 in
theorem w_runnable : about1.curStatus? = some .runnable := by decide +kernel
set_option maxRecDepth 65536 in
theorem w_alone : about1.alone = true := by decide +kernel
set_option maxRecDepth 65536 in
theorem w_named : about1.methodNamed? x = some theMethod := by decide +kernel
set_option maxRecDepth 65536 in
theorem w_hears : about1.hears theMethod below0 = true := by decide +kernel
set_option maxRecDepth 65536 in
theorem w_ripe : about1.ripe theMethod args0 below0 = true := by decide +kernel
theorem w_running : about1.status = .running := rfl
set_option maxRecDepth 65536 in
theorem w_room : about1.hasRoom e0.platform room_1 = true :=
  launch0.hasRoom_least _ room_1 (by decide +kernel) (by decide +kernel) (by decide +kernel) (by decide +kernel) (by decide +kernel) (by decide +kernel)
theorem allAtoms_all (ts : List Jvm.Cond) (a : Array Jvm.Value) (st : Jvm.State) : (allAtoms ts).before a st = ts.all (fun c => c.before a st) := by
  induction ts with
  | nil => rfl
  | cons c t ih =>
    show (Jvm.Cond.and c (allAtoms t)).before a st = _
    rw [Jvm.Cond.before_and, ih, List.all_cons]
def words1 : List Jvm.Cond := Jvm.Cond.code x code maxLocals ret :: tables_1
/-- a 'code' word, met by the world's own term for the bytes: nothing is compared byte by byte -/
theorem code_word {y : MethodName} {bytes : ByteArray} {mx : Nat} {rt : Option FieldType} {a : Array Value} {s : State} {m : MethodId} {meth : Method} {c : Code} (h1 : s.methodNamed? y = some m) (h2 : s.vm.method? m = some meth) (h3 : meth.code = some c) (h4 : c.code = bytes)
    (h5 : (c.maxLocals == mx && c.exceptionTable.isEmpty && decide (c.maxStack ≤ mostOperands) && decide (meth.sig.returnType = rt) && !meth.locks && decide (parseMethodDescriptor y.desc = some meth.sig)) = true) : (Jvm.Cond.code y bytes mx rt).before a s = true := by
  simp only [Bool.and_eq_true, beq_iff_eq, Bool.not_eq_true', decide_eq_true_eq] at h5
  obtain ⟨⟨⟨⟨⟨g1, g2⟩, g3⟩, g4⟩, g5⟩, g6⟩ := h5
  simp [Cond.before, Cond.holds, Cond.value, h1, h2, h3, h4, g1, g2, g3, g4, g5, g6]
def isCode : Jvm.Cond → Bool
  | .code _ _ _ _ => true
  | _ => false
theorem all_split {L : List Jvm.Cond} {P : Jvm.Cond → Bool} (h1 : L.all (fun c => isCode c || P c) = true) (h2 : ∀ c ∈ L.filter isCode, P c = true) : L.all P = true := by
  refine List.all_eq_true.mpr fun c hc => ?_
  have h := List.all_eq_true.mp h1 c hc
  rcases Bool.eq_false_or_eq_true (isCode c) with hi | hi
  · exact h2 c (List.mem_filter.mpr ⟨hc, hi⟩)
  · simpa [hi] using h
set_option maxRecDepth 65536 in
theorem w_c0 : (Jvm.Cond.code x code maxLocals ret).before args0 about1 = true := code_word (m := ⟨1, 7⟩) (meth := k1m7) (c := k1c7) (by decide +kernel) rfl rfl rfl (by decide +kernel)
set_option maxRecDepth 65536 in
theorem w_c1 : (Jvm.Cond.code ⟨"com/example/countersign/countersign/Utf8ComparePinLaw", "toCp", "(IZ)I"⟩ method_4_code (3 : Nat) (Option.some Jvm.ClassFile.FieldType.int)).before args0 about1 = true := code_word (m := ⟨1, 3⟩) (meth := k1m3) (c := k1c3) (by decide +kernel) rfl rfl rfl (by decide +kernel)
set_option maxRecDepth 65536 in
theorem w_c2 : (Jvm.Cond.code ⟨"com/example/countersign/countersign/Utf8ComparePinLaw", "str", "(III)Ljava/lang/String;"⟩ method_7_code (5 : Nat) (Option.some (Jvm.ClassFile.FieldType.object "java/lang/String"))).before args0 about1 = true := code_word (m := ⟨1, 6⟩) (meth := k1m6) (c := k1c6) (by decide +kernel) rfl rfl rfl (by decide +kernel)
set_option maxRecDepth 65536 in
theorem w_c3 : (Jvm.Cond.code ⟨"java/lang/String", "<init>", "([C)V"⟩ jdk_42_method_3_code (2 : Nat) (Option.none : Option Jvm.ClassFile.FieldType)).before args0 about1 = true := code_word (m := ⟨7, 1⟩) (meth := k7m1) (c := k7c1) (by decide +kernel) rfl rfl rfl (by decide +kernel)
set_option maxRecDepth 65536 in
theorem w_c4 : (Jvm.Cond.code ⟨"java/lang/String", "<init>", "([CIILjava/lang/Void;)V"⟩ jdk_42_method_149_code (6 : Nat) (Option.none : Option Jvm.ClassFile.FieldType)).before args0 about1 = true := code_word (m := ⟨7, 4⟩) (meth := k7m4) (c := k7c4) (by decide +kernel) rfl rfl rfl (by decide +kernel)
set_option maxRecDepth 65536 in
theorem w_c5 : (Jvm.Cond.code ⟨"java/lang/Object", "<init>", "()V"⟩ object_method_1_code (1 : Nat) (Option.none : Option Jvm.ClassFile.FieldType)).before args0 about1 = true := code_word (m := ⟨0, 0⟩) (meth := k0m0) (c := k0c0) (by decide +kernel) rfl rfl rfl (by decide +kernel)
set_option maxRecDepth 65536 in
theorem w_c6 : (Jvm.Cond.code ⟨"com/example/countersign/countersign/Utf8ComparePinLaw", "cmp", "(II)I"⟩ method_3_code (2 : Nat) (Option.some Jvm.ClassFile.FieldType.int)).before args0 about1 = true := code_word (m := ⟨1, 2⟩) (meth := k1m2) (c := k1c2) (by decide +kernel) rfl rfl rfl (by decide +kernel)
set_option maxRecDepth 65536 in
theorem w_c7 : (Jvm.Cond.code ⟨"com/example/countersign/countersign/Utf8", "compare", "(Ljava/lang/String;Ljava/lang/String;)I"⟩ prog_10_method_4_code (6 : Nat) (Option.some Jvm.ClassFile.FieldType.int)).before args0 about1 = true := code_word (m := ⟨8, 1⟩) (meth := k8m1) (c := k8c1) (by decide +kernel) rfl rfl rfl (by decide +kernel)
set_option maxRecDepth 65536 in
theorem w_c8 : (Jvm.Cond.code ⟨"java/lang/String", "length", "()I"⟩ jdk_42_method_54_code (1 : Nat) (Option.some Jvm.ClassFile.FieldType.int)).before args0 about1 = true := code_word (m := ⟨7, 2⟩) (meth := k7m2) (c := k7c2) (by decide +kernel) rfl rfl rfl (by decide +kernel)
set_option maxRecDepth 65536 in
theorem w_c9 : (Jvm.Cond.code ⟨"java/lang/String", "coder", "()B"⟩ jdk_42_method_152_code (1 : Nat) (Option.some Jvm.ClassFile.FieldType.byte)).before args0 about1 = true := code_word (m := ⟨7, 5⟩) (meth := k7m5) (c := k7c5) (by decide +kernel) rfl rfl rfl (by decide +kernel)
set_option maxRecDepth 65536 in
theorem w_c10 : (Jvm.Cond.code ⟨"java/lang/Integer", "compare", "(II)I"⟩ jdk_33_method_40_code (2 : Nat) (Option.some Jvm.ClassFile.FieldType.int)).before args0 about1 = true := code_word (m := ⟨10, 0⟩) (meth := k10m0) (c := k10c0) (by decide +kernel) rfl rfl rfl (by decide +kernel)
set_option maxRecDepth 65536 in
theorem w_c11 : (Jvm.Cond.code ⟨"com/example/countersign/countersign/Utf8ComparePinLaw", "sign", "(I)I"⟩ method_2_code (1 : Nat) (Option.some Jvm.ClassFile.FieldType.int)).before args0 about1 = true := code_word (m := ⟨1, 1⟩) (meth := k1m1) (c := k1c1) (by decide +kernel) rfl rfl rfl (by decide +kernel)
set_option maxRecDepth 65536 in
theorem w_c12 : (Jvm.Cond.code ⟨"java/lang/StringUTF16", "compress", "([CII)[B"⟩ jdk_52_method_16_code (6 : Nat) (Option.some (Jvm.ClassFile.FieldType.array Jvm.ClassFile.FieldType.byte))).before args0 about1 = true := code_word (m := ⟨11, 9⟩) (meth := k11m9) (c := k11c9) (by decide +kernel) rfl rfl rfl (by decide +kernel)
set_option maxRecDepth 65536 in
theorem w_c13 : (Jvm.Cond.code ⟨"java/lang/StringUTF16", "compress", "([CI[BII)I"⟩ jdk_52_method_21_code (7 : Nat) (Option.some Jvm.ClassFile.FieldType.int)).before args0 about1 = true := code_word (m := ⟨11, 10⟩) (meth := k11m10) (c := k11c10) (by decide +kernel) rfl rfl rfl (by decide +kernel)
set_option maxRecDepth 65536 in
theorem w_c14 : (Jvm.Cond.code ⟨"java/lang/StringUTF16", "coderFromArrayLen", "([BI)B"⟩ jdk_52_method_15_code (2 : Nat) (Option.some Jvm.ClassFile.FieldType.byte)).before args0 about1 = true := code_word (m := ⟨11, 8⟩) (meth := k11m8) (c := k11c8) (by decide +kernel) rfl rfl rfl (by decide +kernel)
set_option maxRecDepth 65536 in
theorem w_c15 : (Jvm.Cond.code ⟨"java/lang/String", "codePointAt", "(I)I"⟩ jdk_42_method_57_code (3 : Nat) (Option.some Jvm.ClassFile.FieldType.int)).before args0 about1 = true := code_word (m := ⟨7, 3⟩) (meth := k7m3) (c := k7c3) (by decide +kernel) rfl rfl rfl (by decide +kernel)
set_option maxRecDepth 65536 in
theorem w_c16 : (Jvm.Cond.code ⟨"java/lang/String", "isLatin1", "()Z"⟩ jdk_42_method_154_code (1 : Nat) (Option.some Jvm.ClassFile.FieldType.boolean)).before args0 about1 = true := code_word (m := ⟨7, 6⟩) (meth := k7m6) (c := k7c6) (by decide +kernel) rfl rfl rfl (by decide +kernel)
set_option maxRecDepth 65536 in
theorem w_c17 : (Jvm.Cond.code ⟨"java/lang/String", "checkIndex", "(II)V"⟩ jdk_42_method_155_code (2 : Nat) (Option.none : Option Jvm.ClassFile.FieldType)).before args0 about1 = true := code_word (m := ⟨7, 7⟩) (meth := k7m7) (c := k7c7) (by decide +kernel) rfl rfl rfl (by decide +kernel)
set_option maxRecDepth 65536 in
theorem w_c18 : (Jvm.Cond.code ⟨"jdk/internal/util/Preconditions", "checkIndex", "(IILjava/util/function/BiFunction;)I"⟩ jdk_41_method_11_code (3 : Nat) (Option.some Jvm.ClassFile.FieldType.int)).before args0 about1 = true := code_word (m := ⟨12, 1⟩) (meth := k12m1) (c := k12c1) (by decide +kernel) rfl rfl rfl (by decide +kernel)
set_option maxRecDepth 65536 in
theorem w_c19 : (Jvm.Cond.code ⟨"com/example/countersign/countersign/Utf8ComparePinLaw", "hi", "(I)C"⟩ method_5_code (1 : Nat) (Option.some Jvm.ClassFile.FieldType.char)).before args0 about1 = true := code_word (m := ⟨1, 4⟩) (meth := k1m4) (c := k1c4) (by decide +kernel) rfl rfl rfl (by decide +kernel)
set_option maxRecDepth 65536 in
theorem w_c20 : (Jvm.Cond.code ⟨"com/example/countersign/countersign/Utf8ComparePinLaw", "lo", "(I)C"⟩ method_6_code (1 : Nat) (Option.some Jvm.ClassFile.FieldType.char)).before args0 about1 = true := code_word (m := ⟨1, 5⟩) (meth := k1m5) (c := k1c5) (by decide +kernel) rfl rfl rfl (by decide +kernel)
set_option maxRecDepth 65536 in
theorem w_c21 : (Jvm.Cond.code ⟨"java/lang/StringUTF16", "toBytes", "([CII)[B"⟩ jdk_52_method_14_code (5 : Nat) (Option.some (Jvm.ClassFile.FieldType.array Jvm.ClassFile.FieldType.byte))).before args0 about1 = true := code_word (m := ⟨11, 7⟩) (meth := k11m7) (c := k11c7) (by decide +kernel) rfl rfl rfl (by decide +kernel)
set_option maxRecDepth 65536 in
theorem w_c22 : (Jvm.Cond.code ⟨"java/lang/StringUTF16", "newBytesFor", "(I)[B"⟩ jdk_52_method_2_code (1 : Nat) (Option.some (Jvm.ClassFile.FieldType.array Jvm.ClassFile.FieldType.byte))).before args0 about1 = true := code_word (m := ⟨11, 1⟩) (meth := k11m1) (c := k11c1) (by decide +kernel) rfl rfl rfl (by decide +kernel)
set_option maxRecDepth 65536 in
theorem w_c23 : (Jvm.Cond.code ⟨"java/lang/StringUTF16", "newBytesLength", "(I)I"⟩ jdk_52_method_3_code (1 : Nat) (Option.some Jvm.ClassFile.FieldType.int)).before args0 about1 = true := code_word (m := ⟨11, 2⟩) (meth := k11m2) (c := k11c2) (by decide +kernel) rfl rfl rfl (by decide +kernel)
set_option maxRecDepth 65536 in
theorem w_c24 : (Jvm.Cond.code ⟨"java/lang/StringUTF16", "putChar", "([BII)V"⟩ jdk_52_method_4_code (3 : Nat) (Option.none : Option Jvm.ClassFile.FieldType)).before args0 about1 = true := code_word (m := ⟨11, 3⟩) (meth := k11m3) (c := k11c3) (by decide +kernel) rfl rfl rfl (by decide +kernel)
set_option maxRecDepth 65536 in
theorem w_c25 : (Jvm.Cond.code ⟨"java/lang/StringUTF16", "getChar", "([BI)C"⟩ jdk_52_method_5_code (2 : Nat) (Option.some Jvm.ClassFile.FieldType.char)).before args0 about1 = true := code_word (m := ⟨11, 4⟩) (meth := k11m4) (c := k11c4) (by decide +kernel) rfl rfl rfl (by decide +kernel)
set_option maxRecDepth 65536 in
theorem w_c26 : (Jvm.Cond.code ⟨"java/lang/Character", "charCount", "(I)I"⟩ jdk_89_method_18_code (1 : Nat) (Option.some Jvm.ClassFile.FieldType.int)).before args0 about1 = true := code_word (m := ⟨13, 2⟩) (meth := k13m2) (c := k13c2) (by decide +kernel) rfl rfl rfl (by decide +kernel)
set_option maxRecDepth 65536 in
theorem w_c27 : (Jvm.Cond.code ⟨"java/lang/StringUTF16", "codePointAt", "([BII)I"⟩ jdk_52_method_8_code (3 : Nat) (Option.some Jvm.ClassFile.FieldType.int)).before args0 about1 = true := code_word (m := ⟨11, 6⟩) (meth := k11m6) (c := k11c6) (by decide +kernel) rfl rfl rfl (by decide +kernel)
set_option maxRecDepth 65536 in
theorem w_c28 : (Jvm.Cond.code ⟨"java/lang/StringUTF16", "codePointAt", "([BIIZ)I"⟩ jdk_52_method_7_code (6 : Nat) (Option.some Jvm.ClassFile.FieldType.int)).before args0 about1 = true := code_word (m := ⟨11, 5⟩) (meth := k11m5) (c := k11c5) (by decide +kernel) rfl rfl rfl (by decide +kernel)
set_option maxRecDepth 65536 in
theorem w_c29 : (Jvm.Cond.code ⟨"java/lang/Character", "isHighSurrogate", "(C)Z"⟩ jdk_89_method_14_code (1 : Nat) (Option.some Jvm.ClassFile.FieldType.boolean)).before args0 about1 = true := code_word (m := ⟨13, 0⟩) (meth := k13m0) (c := k13c0) (by decide +kernel) rfl rfl rfl (by decide +kernel)
set_option maxRecDepth 65536 in
theorem w_c30 : (Jvm.Cond.code ⟨"java/lang/Character", "isLowSurrogate", "(C)Z"⟩ jdk_89_method_15_code (1 : Nat) (Option.some Jvm.ClassFile.FieldType.boolean)).before args0 about1 = true := code_word (m := ⟨13, 1⟩) (meth := k13m1) (c := k13c1) (by decide +kernel) rfl rfl rfl (by decide +kernel)
set_option maxRecDepth 65536 in
theorem w_c31 : (Jvm.Cond.code ⟨"java/lang/Character", "toCodePoint", "(CC)I"⟩ jdk_89_method_19_code (2 : Nat) (Option.some Jvm.ClassFile.FieldType.int)).before args0 about1 = true := code_word (m := ⟨13, 3⟩) (meth := k13m3) (c := k13c3) (by decide +kernel) rfl rfl rfl (by decide +kernel)
def codes1 : List Jvm.Cond := [Jvm.Cond.code x code maxLocals ret, Jvm.Cond.code ⟨"com/example/countersign/countersign/Utf8ComparePinLaw", "toCp", "(IZ)I"⟩ method_4_code (3 : Nat) (Option.some Jvm.ClassFile.FieldType.int), Jvm.Cond.code ⟨"com/example/countersign/countersign/Utf8ComparePinLaw", "str", "(III)Ljava/lang/String;"⟩ method_7_code (5 : Nat) (Option.some (Jvm.ClassFile.FieldType.object "java/lang/String")), Jvm.Cond.code ⟨"java/lang/String", "<init>", "([C)V"⟩ jdk_42_method_3_code (2 : Nat) (Option.none : Option Jvm.ClassFile.FieldType), Jvm.Cond.code ⟨"java/lang/String", "<init>", "([CIILjava/lang/Void;)V"⟩ jdk_42_method_149_code (6 : Nat) (Option.none : Option Jvm.ClassFile.FieldType), Jvm.Cond.code ⟨"java/lang/Object", "<init>", "()V"⟩ object_method_1_code (1 : Nat) (Option.none : Option Jvm.ClassFile.FieldType), Jvm.Cond.code ⟨"com/example/countersign/countersign/Utf8ComparePinLaw", "cmp", "(II)I"⟩ method_3_code (2 : Nat) (Option.some Jvm.ClassFile.FieldType.int), Jvm.Cond.code ⟨"com/example/countersign/countersign/Utf8", "compare", "(Ljava/lang/String;Ljava/lang/String;)I"⟩ prog_10_method_4_code (6 : Nat) (Option.some Jvm.ClassFile.FieldType.int), Jvm.Cond.code ⟨"java/lang/String", "length", "()I"⟩ jdk_42_method_54_code (1 : Nat) (Option.some Jvm.ClassFile.FieldType.int), Jvm.Cond.code ⟨"java/lang/String", "coder", "()B"⟩ jdk_42_method_152_code (1 : Nat) (Option.some Jvm.ClassFile.FieldType.byte), Jvm.Cond.code ⟨"java/lang/Integer", "compare", "(II)I"⟩ jdk_33_method_40_code (2 : Nat) (Option.some Jvm.ClassFile.FieldType.int), Jvm.Cond.code ⟨"com/example/countersign/countersign/Utf8ComparePinLaw", "sign", "(I)I"⟩ method_2_code (1 : Nat) (Option.some Jvm.ClassFile.FieldType.int), Jvm.Cond.code ⟨"java/lang/StringUTF16", "compress", "([CII)[B"⟩ jdk_52_method_16_code (6 : Nat) (Option.some (Jvm.ClassFile.FieldType.array Jvm.ClassFile.FieldType.byte)), Jvm.Cond.code ⟨"java/lang/StringUTF16", "compress", "([CI[BII)I"⟩ jdk_52_method_21_code (7 : Nat) (Option.some Jvm.ClassFile.FieldType.int), Jvm.Cond.code ⟨"java/lang/StringUTF16", "coderFromArrayLen", "([BI)B"⟩ jdk_52_method_15_code (2 : Nat) (Option.some Jvm.ClassFile.FieldType.byte), Jvm.Cond.code ⟨"java/lang/String", "codePointAt", "(I)I"⟩ jdk_42_method_57_code (3 : Nat) (Option.some Jvm.ClassFile.FieldType.int), Jvm.Cond.code ⟨"java/lang/String", "isLatin1", "()Z"⟩ jdk_42_method_154_code (1 : Nat) (Option.some Jvm.ClassFile.FieldType.boolean), Jvm.Cond.code ⟨"java/lang/String", "checkIndex", "(II)V"⟩ jdk_42_method_155_code (2 : Nat) (Option.none : Option Jvm.ClassFile.FieldType), Jvm.Cond.code ⟨"jdk/internal/util/Preconditions", "checkIndex", "(IILjava/util/function/BiFunction;)I"⟩ jdk_41_method_11_code (3 : Nat) (Option.some Jvm.ClassFile.FieldType.int), Jvm.Cond.code ⟨"com/example/countersign/countersign/Utf8ComparePinLaw", "hi", "(I)C"⟩ method_5_code (1 : Nat) (Option.some Jvm.ClassFile.FieldType.char), Jvm.Cond.code ⟨"com/example/countersign/countersign/Utf8ComparePinLaw", "lo", "(I)C"⟩ method_6_code (1 : Nat) (Option.some Jvm.ClassFile.FieldType.char), Jvm.Cond.code ⟨"java/lang/StringUTF16", "toBytes", "([CII)[B"⟩ jdk_52_method_14_code (5 : Nat) (Option.some (Jvm.ClassFile.FieldType.array Jvm.ClassFile.FieldType.byte)), Jvm.Cond.code ⟨"java/lang/StringUTF16", "newBytesFor", "(I)[B"⟩ jdk_52_method_2_code (1 : Nat) (Option.some (Jvm.ClassFile.FieldType.array Jvm.ClassFile.FieldType.byte)), Jvm.Cond.code ⟨"java/lang/StringUTF16", "newBytesLength", "(I)I"⟩ jdk_52_method_3_code (1 : Nat) (Option.some Jvm.ClassFile.FieldType.int), Jvm.Cond.code ⟨"java/lang/StringUTF16", "putChar", "([BII)V"⟩ jdk_52_method_4_code (3 : Nat) (Option.none : Option Jvm.ClassFile.FieldType), Jvm.Cond.code ⟨"java/lang/StringUTF16", "getChar", "([BI)C"⟩ jdk_52_method_5_code (2 : Nat) (Option.some Jvm.ClassFile.FieldType.char), Jvm.Cond.code ⟨"java/lang/Character", "charCount", "(I)I"⟩ jdk_89_method_18_code (1 : Nat) (Option.some Jvm.ClassFile.FieldType.int), Jvm.Cond.code ⟨"java/lang/StringUTF16", "codePointAt", "([BII)I"⟩ jdk_52_method_8_code (3 : Nat) (Option.some Jvm.ClassFile.FieldType.int), Jvm.Cond.code ⟨"java/lang/StringUTF16", "codePointAt", "([BIIZ)I"⟩ jdk_52_method_7_code (6 : Nat) (Option.some Jvm.ClassFile.FieldType.int), Jvm.Cond.code ⟨"java/lang/Character", "isHighSurrogate", "(C)Z"⟩ jdk_89_method_14_code (1 : Nat) (Option.some Jvm.ClassFile.FieldType.boolean), Jvm.Cond.code ⟨"java/lang/Character", "isLowSurrogate", "(C)Z"⟩ jdk_89_method_15_code (1 : Nat) (Option.some Jvm.ClassFile.FieldType.boolean), Jvm.Cond.code ⟨"java/lang/Character", "toCodePoint", "(CC)I"⟩ jdk_89_method_19_code (2 : Nat) (Option.some Jvm.ClassFile.FieldType.int)]
set_option maxRecDepth 65536 in
theorem codes_eq : words1.filter isCode = codes1 := rfl
theorem w_codes : ∀ c ∈ words1.filter isCode, c.before args0 about1 = true := by
  rw [codes_eq]
  intro c hc
  simp only [codes1, List.mem_cons, List.not_mem_nil, or_false] at hc
  rcases hc with rfl | rfl | rfl | rfl | rfl | rfl | rfl | rfl | rfl | rfl | rfl | rfl | rfl | rfl | rfl | rfl | rfl | rfl | rfl | rfl | rfl | rfl | rfl | rfl | rfl | rfl | rfl | rfl | rfl | rfl | rfl | rfl
  · exact w_c0
  · exact w_c1
  · exact w_c2
  · exact w_c3
  · exact w_c4
  · exact w_c5
  · exact w_c6
  · exact w_c7
  · exact w_c8
  · exact w_c9
  · exact w_c10
  · exact w_c11
  · exact w_c12
  · exact w_c13
  · exact w_c14
  · exact w_c15
  · exact w_c16
  · exact w_c17
  · exact w_c18
  · exact w_c19
  · exact w_c20
  · exact w_c21
  · exact w_c22
  · exact w_c23
  · exact w_c24
  · exact w_c25
  · exact w_c26
  · exact w_c27
  · exact w_c28
  · exact w_c29
  · exact w_c30
  · exact w_c31
set_option maxRecDepth 65536 in
theorem w_t1 : (words1.take 24).all (fun c => isCode c || c.before args0 about1) = true := by decide +kernel
set_option maxRecDepth 65536 in
theorem w_t2 : ((words1.drop 24).take 24).all (fun c => isCode c || c.before args0 about1) = true := by decide +kernel
set_option maxRecDepth 65536 in
theorem w_t3 : (((words1.drop 24).drop 24).take 24).all (fun c => isCode c || c.before args0 about1) = true := by decide +kernel
set_option maxRecDepth 65536 in
theorem w_t4 : ((((words1.drop 24).drop 24).drop 24).take 24).all (fun c => isCode c || c.before args0 about1) = true := by decide +kernel
set_option maxRecDepth 65536 in
theorem w_t5 : (((((words1.drop 24).drop 24).drop 24).drop 24).take 24).all (fun c => isCode c || c.before args0 about1) = true := by decide +kernel
set_option maxRecDepth 65536 in
theorem w_t6 : (((((words1.drop 24).drop 24).drop 24).drop 24).drop 24).all (fun c => isCode c || c.before args0 about1) = true := by decide +kernel
theorem w_tables : (allAtoms (Jvm.Cond.code x code maxLocals ret :: tables_1)).before args0 about1 = true := by
  rw [allAtoms_all]
  show words1.all (fun c => c.before args0 about1) = true
  refine all_split ?_ w_codes
  rw [← List.take_append_drop 24 words1, List.all_append, w_t1, ← List.take_append_drop 24 (words1.drop 24), List.all_append, w_t2, ← List.take_append_drop 24 ((words1.drop 24).drop 24), List.all_append, w_t3, ← List.take_append_drop 24 (((words1.drop 24).drop 24).drop 24), List.all_append, w_t4, ← List.take_append_drop 24 ((((words1.drop 24).drop 24).drop 24).drop 24), List.all_append, w_t5, w_t6]
  rfl
set_option maxRecDepth 65536 in
theorem w_rest : rest_1_c.before args0 about1 = true := by decide +kernel
set_option maxRecDepth 65536 in
theorem w_case : (Jvm.Cond.and given_1 narrow_1).before args0 about1 = true := by decide +kernel
set_option maxRecDepth 65536 in
theorem w_consts : constsHeld consts_1 about1 := Jvm.Lit.constsHeldB_iff.mp (by decide +kernel)
theorem w_applies : (headSpec (Jvm.Cond.code x code maxLocals ret :: tables_1) room_1).applies x e0.platform about1 = true :=
  (Spec.applies_iff w_frames).mpr ⟨w_running, w_runnable, w_alone, w_named, w_hears, w_ripe, w_room, w_tables⟩
theorem atStart : AtStart classFile x code maxLocals ret World_1 tables_1 room_1 Calls_1 rest_1 Pre_1 launch0 p0 e0 about1 theMethod args0 below0 :=
  ⟨lists_1, trivial, launch0.admits_env _ _ _, launch0.least_env, fairChoices_fair.cas, fairChoices_fair.clock, w_frames, w_args, w_heap, w_applies, ⟨w_consts, trivial⟩, w_rest, w_case⟩
end start1
theorem witness_1 : WitnessClaimed_1 := ⟨start1.p0, start1.e0, start1.about1, start1.theMethod, start1.args0, start1.below0, start1.atStart⟩
end Jvm.Pilot.@@N@@
