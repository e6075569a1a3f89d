import JvmDerived
import JvmDerived.Pilot.@@N@@Statement
import JvmDerived.Pilot.@@N@@Code
set_option linter.unusedVariables false
set_option linter.unusedSimpArgs false
namespace Jvm.Pilot.@@N@@
open Jvm Jvm.ClassFile Sem Op Lib Jvm.Free Jvm.Stand Jvm.LawKit Jvm.RoadKit Bundle Jvm.Pilot.@@N@@.Jvm.D
section OwnPre
def Gl (tb : Tables) (e : Env) (below : List Frame) (P : State → Outcome → Prop) (T : State) (m : MethodId) (pc : Nat) (L : Array Slot) (S : List Value) : Prop := ∃ s₂ o, Steps tb e below (T.setTop (mkF m pc L S)) s₂ ∧ P s₂ o
def Wk (p : Program) (l : Launch) (e : Env) (R : Room) (s : State) (m : MethodId) (args : Array Value) (below : List Frame) (meth : Method) (c : Code) (own : String) (Z : State) (hb : Heap) (ws : List Addr) (I : Heap → Prop) (T : State) (h : Heap) (locs : List Loc) (cells slots : Nat) : Prop :=
  Stand p l e R s m args below meth c T locs cells slots ∧ p.tables.exec = Jvm.exec ∧ T.heap = h ∧ Z.Warmed39 s.vm ∧ s.vm.findClass own = some m.cls ∧ Old Z Z.heap.size h ∧ Fr Z.heap.size locs ∧ Keep hb h ws ∧ I h
variable {p : Program} {l : Launch} {e : Env} {R : Room} {s : State} {m : MethodId} {args : Array Value} {below : List Frame} {meth : Method} {c : Code} {T : State} {locs : List Loc} {cells slots cells' slots' : Nat} {Z : State} {a0 : Array Value} {h hb : Heap} {ws : List Addr} {own : String} {I : Heap → Prop} {P : State → Outcome → Prop} {pc pc' : Nat} {L L' : Array Slot} {S : List Value}
theorem Gl.st {tb : Tables} {T T' : State} {S' : List Value} (k : ∀ target, Steps tb e below (T'.setTop (mkF m pc' L' S')) target → Steps tb e below (T.setTop (mkF m pc L S)) target) (G : Gl tb e below P T' m pc' L' S') : Gl tb e below P T m pc L S := by
  obtain ⟨s2, o, h1, h2⟩ := G
  exact ⟨s2, o, k _ h1, h2⟩
theorem Gl.tr {tb : Tables} {T T' : State} {S' : List Value} (k : Steps tb e below (T.setTop (mkF m pc L S)) (T'.setTop (mkF m pc' L' S'))) (G : Gl tb e below P T' m pc' L' S') : Gl tb e below P T m pc L S := by
  obtain ⟨s2, o, h1, h2⟩ := G
  exact ⟨s2, o, k.trans h1, h2⟩
theorem o_merge {tb : Tables} {α : Type} (C : α → Prop) (q : Nat) (FL : α → Array Slot) (FS : α → List Value) (A : (∀ v, C v → Gl tb e below P T m q (FL v) (FS v)) → Gl tb e below P T m pc L S) (B : ∀ v, C v → Gl tb e below P T m q (FL v) (FS v)) : Gl tb e below P T m pc L S := A B
theorem Wk.ox (W : Wk p l e R s m args below meth c own Z hb ws I T h locs cells slots) : Ext Z.heap h := W.2.2.2.2.2.1.2
theorem Wk.old (W : Wk p l e R s m args below meth c own Z hb ws I T h locs cells slots) : Old Z Z.heap.size h := W.2.2.2.2.2.1
theorem Wk.keep (W : Wk p l e R s m args below meth c own Z hb ws I T h locs cells slots) : Keep hb h ws := W.2.2.2.2.2.2.2.1
theorem Wk.inv (W : Wk p l e R s m args below meth c own Z hb ws I T h locs cells slots) : I h := W.2.2.2.2.2.2.2.2
theorem Wk.zs (W : Wk p l e R s m args below meth c own Z hb ws I T h locs cells slots) : Z.heap.size ≤ h.size := W.ox.1
theorem Wk.al (W : Wk p l e R s m args below meth c own Z hb ws I T h locs cells slots) : Z.vm.Alike s.vm := W.2.2.2.1.alike
theorem own_ne {x b n : Nat} (h1 : x < n) (h2 : n ≤ b) : x ≠ b := Nat.ne_of_lt (Nat.lt_of_lt_of_le h1 h2)
theorem own_ne' {x b n : Nat} (h1 : x < n) (h2 : n ≤ b) : b ≠ x := Ne.symm (own_ne h1 h2)
theorem o_iloadN (W : Wk p l e R s m args below meth c own Z hb ws I T h locs cells slots) {k : Fin 4} {v : Int32} (pc' : Nat) (hd : decode c.code pc = .ok (.iload_n k, 1)) (hl : L[k.val]? = some (.val (.int v))) (hp : pc + 1 = pc') (K : Gl p.tables e below P T m pc' L (.int v :: S)) : Gl p.tables e below P T m pc L S := by
  subst hp; exact Gl.st (fun _ q => XS.iloadN W.1.here W.2.1 rfl hd hl q) K
theorem o_iload (W : Wk p l e R s m args below meth c own Z hb ws I T h locs cells slots) {k : Nat} {v : Int32} (pc' : Nat) (hd : decode c.code pc = .ok (.iload k, 2)) (hl : L[k]? = some (.val (.int v))) (hp : pc + 2 = pc') (K : Gl p.tables e below P T m pc' L (.int v :: S)) : Gl p.tables e below P T m pc L S := by
  subst hp; exact Gl.st (fun _ q => XS.iload W.1.here W.2.1 rfl hd hl q) K
theorem o_istoreN (W : Wk p l e R s m args below meth c own Z hb ws I T h locs cells slots) {k : Fin 4} {v : Int32} {L' : Array Slot} (pc' : Nat) (hd : decode c.code pc = .ok (.istore_n k, 1)) (hl : storeLocals L k.val (.int v) = some L') (hp : pc + 1 = pc') (K : Gl p.tables e below P T m pc' L' S) : Gl p.tables e below P T m pc L (.int v :: S) := by
  subst hp; exact Gl.st (fun _ q => XS.istoreN W.1.here W.2.1 rfl hd rfl hl q) K
theorem o_istore (W : Wk p l e R s m args below meth c own Z hb ws I T h locs cells slots) {k : Nat} {v : Int32} {L' : Array Slot} (pc' : Nat) (hd : decode c.code pc = .ok (.istore k, 2)) (hl : storeLocals L k (.int v) = some L') (hp : pc + 2 = pc') (K : Gl p.tables e below P T m pc' L' S) : Gl p.tables e below P T m pc L (.int v :: S) := by
  subst hp; exact Gl.st (fun _ q => XS.istore W.1.here W.2.1 rfl hd rfl hl q) K
theorem o_aloadN (W : Wk p l e R s m args below meth c own Z hb ws I T h locs cells slots) {k : Fin 4} {v : Value} (pc' : Nat) (hd : decode c.code pc = .ok (.aload_n k, 1)) (hl : L[k.val]? = some (.val v)) (hv : v.isRef = true) (hp : pc + 1 = pc') (K : Gl p.tables e below P T m pc' L (v :: S)) : Gl p.tables e below P T m pc L S := by
  subst hp; exact Gl.st (fun _ q => XS.aloadN W.1.here W.2.1 rfl hd hl hv q) K
theorem o_aload (W : Wk p l e R s m args below meth c own Z hb ws I T h locs cells slots) {k : Nat} {v : Value} (pc' : Nat) (hd : decode c.code pc = .ok (.aload k, 2)) (hl : L[k]? = some (.val v)) (hv : v.isRef = true) (hp : pc + 2 = pc') (K : Gl p.tables e below P T m pc' L (v :: S)) : Gl p.tables e below P T m pc L S := by
  subst hp; exact Gl.st (fun _ q => XS.aload W.1.here W.2.1 rfl hd hl hv q) K
theorem o_astoreN (W : Wk p l e R s m args below meth c own Z hb ws I T h locs cells slots) {k : Fin 4} {v : Value} {L' : Array Slot} (pc' : Nat) (hd : decode c.code pc = .ok (.astore_n k, 1)) (hv : v.isRef = true) (hl : storeLocals L k.val v = some L') (hp : pc + 1 = pc') (K : Gl p.tables e below P T m pc' L' S) : Gl p.tables e below P T m pc L (v :: S) := by
  subst hp; exact Gl.st (fun _ q => XS.astoreN W.1.here W.2.1 rfl hd rfl hv hl q) K
theorem o_astore (W : Wk p l e R s m args below meth c own Z hb ws I T h locs cells slots) {k : Nat} {v : Value} {L' : Array Slot} (pc' : Nat) (hd : decode c.code pc = .ok (.astore k, 2)) (hv : v.isRef = true) (hl : storeLocals L k v = some L') (hp : pc + 2 = pc') (K : Gl p.tables e below P T m pc' L' S) : Gl p.tables e below P T m pc L (v :: S) := by
  subst hp; exact Gl.st (fun _ q => XS.astore W.1.here W.2.1 rfl hd rfl hv hl q) K
theorem o_iconst (W : Wk p l e R s m args below meth c own Z hb ws I T h locs cells slots) {i : Int} {v : Int32} (pc' : Nat) (hd : decode c.code pc = .ok (.iconst i, 1)) (hv : Int32.ofInt i = v) (hp : pc + 1 = pc') (K : Gl p.tables e below P T m pc' L (.int v :: S)) : Gl p.tables e below P T m pc L S := by
  subst hp; exact Gl.st (fun _ q => XT.iconstV W.1.here W.2.1 rfl v hd hv q) K
theorem o_bipush (W : Wk p l e R s m args below meth c own Z hb ws I T h locs cells slots) {i : Int} {v : Int32} (pc' : Nat) (hd : decode c.code pc = .ok (.bipush i, 2)) (hv : (Int8.ofInt i).toInt32 = v) (hp : pc + 2 = pc') (K : Gl p.tables e below P T m pc' L (.int v :: S)) : Gl p.tables e below P T m pc L S := by
  subst hp; exact Gl.st (fun _ q => XT.bipushV W.1.here W.2.1 rfl v hd hv q) K
theorem o_sipush (W : Wk p l e R s m args below meth c own Z hb ws I T h locs cells slots) {i : Int} {v : Int32} (pc' : Nat) (hd : decode c.code pc = .ok (.sipush i, 3)) (hv : (Int16.ofInt i).toInt32 = v) (hp : pc + 3 = pc') (K : Gl p.tables e below P T m pc' L (.int v :: S)) : Gl p.tables e below P T m pc L S := by
  subst hp; exact Gl.st (fun _ q => XT.sipushV W.1.here W.2.1 rfl v hd hv q) K
theorem o_aconstNull (W : Wk p l e R s m args below meth c own Z hb ws I T h locs cells slots)  (pc' : Nat) (hd : decode c.code pc = .ok (.aconst_null, 1)) (hp : pc + 1 = pc') (K : Gl p.tables e below P T m pc' L (.null :: S)) : Gl p.tables e below P T m pc L S := by
  subst hp; exact Gl.st (fun _ q => XS.aconstNull W.1.here W.2.1 rfl hd q) K
theorem o_isub (W : Wk p l e R s m args below meth c own Z hb ws I T h locs cells slots) {x y v : Int32} (pc' : Nat) (hd : decode c.code pc = .ok (.isub, 1)) (hv : x - y = v) (hp : pc + 1 = pc') (K : Gl p.tables e below P T m pc' L (.int v :: S)) : Gl p.tables e below P T m pc L (.int y :: .int x :: S) := by
  subst hp; exact Gl.st (fun _ q => XS.isub W.1.here W.2.1 rfl hd rfl (by rw [hv]; exact q)) K
theorem o_iand (W : Wk p l e R s m args below meth c own Z hb ws I T h locs cells slots) {x y v : Int32} (pc' : Nat) (hd : decode c.code pc = .ok (.iand, 1)) (hv : x &&& y = v) (hp : pc + 1 = pc') (K : Gl p.tables e below P T m pc' L (.int v :: S)) : Gl p.tables e below P T m pc L (.int y :: .int x :: S) := by
  subst hp; exact Gl.st (fun _ q => XS.iand W.1.here W.2.1 rfl hd rfl (by rw [hv]; exact q)) K
theorem o_ior (W : Wk p l e R s m args below meth c own Z hb ws I T h locs cells slots) {x y v : Int32} (pc' : Nat) (hd : decode c.code pc = .ok (.ior, 1)) (hv : x ||| y = v) (hp : pc + 1 = pc') (K : Gl p.tables e below P T m pc' L (.int v :: S)) : Gl p.tables e below P T m pc L (.int y :: .int x :: S) := by
  subst hp; exact Gl.st (fun _ q => XS.ior W.1.here W.2.1 rfl hd rfl (by rw [hv]; exact q)) K
theorem o_ishl (W : Wk p l e R s m args below meth c own Z hb ws I T h locs cells slots) {x v : Int32} {y : Int32} (pc' : Nat) (hd : decode c.code pc = .ok (.ishl, 1)) (hv : x <<< (y &&& 31) = v) (hp : pc + 1 = pc') (K : Gl p.tables e below P T m pc' L (.int v :: S)) : Gl p.tables e below P T m pc L (.int y :: .int x :: S) := by
  subst hp; exact Gl.st (fun _ q => XS.ishl W.1.here W.2.1 rfl hd rfl (by rw [hv]; exact q)) K
theorem o_ishr (W : Wk p l e R s m args below meth c own Z hb ws I T h locs cells slots) {x v : Int32} {y : Int32} (pc' : Nat) (hd : decode c.code pc = .ok (.ishr, 1)) (hv : x >>> (y &&& 31) = v) (hp : pc + 1 = pc') (K : Gl p.tables e below P T m pc' L (.int v :: S)) : Gl p.tables e below P T m pc L (.int y :: .int x :: S) := by
  subst hp; exact Gl.st (fun _ q => XS.ishr W.1.here W.2.1 rfl hd rfl (by rw [hv]; exact q)) K
theorem o_iushr (W : Wk p l e R s m args below meth c own Z hb ws I T h locs cells slots) {x v : Int32} {y : Int32} (pc' : Nat) (hd : decode c.code pc = .ok (.iushr, 1)) (hv : (x.toUInt32 >>> (y &&& 31).toUInt32).toInt32 = v) (hp : pc + 1 = pc') (K : Gl p.tables e below P T m pc' L (.int v :: S)) : Gl p.tables e below P T m pc L (.int y :: .int x :: S) := by
  subst hp; exact Gl.st (fun _ q => XS.iushr W.1.here W.2.1 rfl hd rfl (by rw [hv]; exact q)) K
theorem o_i2b (W : Wk p l e R s m args below meth c own Z hb ws I T h locs cells slots) {x : Int32} {v : Int32} (pc' : Nat) (hd : decode c.code pc = .ok (.i2b, 1)) (hv : x.toInt8.toInt32 = v) (hp : pc + 1 = pc') (K : Gl p.tables e below P T m pc' L (.int v :: S)) : Gl p.tables e below P T m pc L (.int x :: S) := by
  subst hp; exact Gl.st (fun _ q => XS.i2b W.1.here W.2.1 rfl hd rfl (by rw [hv]; exact q)) K
theorem o_i2c (W : Wk p l e R s m args below meth c own Z hb ws I T h locs cells slots) {x : Int32} {v : Int32} (pc' : Nat) (hd : decode c.code pc = .ok (.i2c, 1)) (hv : x.toUInt32.toUInt16.toUInt32.toInt32 = v) (hp : pc + 1 = pc') (K : Gl p.tables e below P T m pc' L (.int v :: S)) : Gl p.tables e below P T m pc L (.int x :: S) := by
  subst hp; exact Gl.st (fun _ q => XS.i2c W.1.here W.2.1 rfl hd rfl (by rw [hv]; exact q)) K
theorem o_irem (W : Wk p l e R s m args below meth c own Z hb ws I T h locs cells slots) {x y v : Int32} (pc' : Nat) (hd : decode c.code pc = .ok (.irem, 1)) (hy : y ≠ 0) (hv : x % y = v) (hp : pc + 1 = pc') (K : Gl p.tables e below P T m pc' L (.int v :: S)) : Gl p.tables e below P T m pc L (.int y :: .int x :: S) := by
  subst hp; exact Gl.st (fun _ q => iremM W.1 W.2.1 rfl hd rfl hy (by rw [hv]; exact q)) K
theorem o_iinc (W : Wk p l e R s m args below meth c own Z hb ws I T h locs cells slots) {k : Nat} {i : Int} {x v : Int32} {L' : Array Slot} (pc' : Nat) (hd : decode c.code pc = .ok (.iinc k i, 3)) (hl : L[k]? = some (.val (.int x))) (hv : x + Int32.ofInt i = v) (hl' : storeLocals L k (.int v) = some L') (hp : pc + 3 = pc') (K : Gl p.tables e below P T m pc' L' S) : Gl p.tables e below P T m pc L S := by
  subst hp; exact Gl.st (fun _ q => XS.iinc W.1.here W.2.1 rfl hd hl (by rw [hv]; exact hl') q) K
theorem o_dup (W : Wk p l e R s m args below meth c own Z hb ws I T h locs cells slots) {x : Value} (pc' : Nat) (hd : decode c.code pc = .ok (.dup, 1)) (hc : x.category = 1) (hp : pc + 1 = pc') (K : Gl p.tables e below P T m pc' L (x :: x :: S)) : Gl p.tables e below P T m pc L (x :: S) := by
  subst hp; exact Gl.st (fun _ q => XS.dup W.1.here W.2.1 rfl hd rfl hc q) K
theorem o_pop (W : Wk p l e R s m args below meth c own Z hb ws I T h locs cells slots) {x : Value} (pc' : Nat) (hd : decode c.code pc = .ok (.pop, 1)) (hc : x.category = 1) (hp : pc + 1 = pc') (K : Gl p.tables e below P T m pc' L S) : Gl p.tables e below P T m pc L (x :: S) := by
  subst hp; exact Gl.st (fun _ q => XS.pop W.1.here W.2.1 rfl hd rfl hc q) K
theorem o_goto (W : Wk p l e R s m args below meth c own Z hb ws I T h locs cells slots) {o : Int} (pc' : Nat) (hd : decode c.code pc = .ok (.goto o, 3)) (ho : 0 ≤ (pc : Int) + o) (hp : ((pc : Int) + o).toNat = pc') (K : Gl p.tables e below P T m pc' L S) : Gl p.tables e below P T m pc L S := by
  exact Gl.st (fun _ q => XS.goto W.1.here W.2.1 rfl (pc0 := pc) rfl hd ho hp q) K
theorem o_ifY (W : Wk p l e R s m args below meth c own Z hb ws I T h locs cells slots) {o : Int} {cd : ClassFile.Cond} {x : Int32} (pc' : Nat) (hd : decode c.code pc = .ok (.ifCond cd o, 3)) (hc : ifCond.holds cd x = true) (ho : 0 ≤ (pc : Int) + o) (hp : ((pc : Int) + o).toNat = pc') (K : Gl p.tables e below P T m pc' L S) : Gl p.tables e below P T m pc L (.int x :: S) := by
  exact Gl.st (fun _ q => XS.ifYes W.1.here W.2.1 rfl (pc0 := pc) rfl hd rfl hc ho hp q) K
theorem o_ifN (W : Wk p l e R s m args below meth c own Z hb ws I T h locs cells slots) {o : Int} {cd : ClassFile.Cond} {x : Int32} (pc' : Nat) (hd : decode c.code pc = .ok (.ifCond cd o, 3)) (hc : ifCond.holds cd x = false) (hp : pc + 3 = pc') (K : Gl p.tables e below P T m pc' L S) : Gl p.tables e below P T m pc L (.int x :: S) := by
  subst hp; exact Gl.st (fun _ q => XS.ifNo W.1.here W.2.1 rfl hd rfl hc q) K
theorem o_icmpY (W : Wk p l e R s m args below meth c own Z hb ws I T h locs cells slots) {o : Int} {cd : ClassFile.Cond} {x y : Int32} (pc' : Nat) (hd : decode c.code pc = .ok (.if_icmp cd o, 3)) (hc : if_icmp.holds cd x y = true) (ho : 0 ≤ (pc : Int) + o) (hp : ((pc : Int) + o).toNat = pc') (K : Gl p.tables e below P T m pc' L S) : Gl p.tables e below P T m pc L (.int y :: .int x :: S) := by
  exact Gl.st (fun _ q => XS.icmpYes W.1.here W.2.1 rfl (pc0 := pc) rfl hd rfl hc ho hp q) K
theorem o_icmpN (W : Wk p l e R s m args below meth c own Z hb ws I T h locs cells slots) {o : Int} {cd : ClassFile.Cond} {x y : Int32} (pc' : Nat) (hd : decode c.code pc = .ok (.if_icmp cd o, 3)) (hc : if_icmp.holds cd x y = false) (hp : pc + 3 = pc') (K : Gl p.tables e below P T m pc' L S) : Gl p.tables e below P T m pc L (.int y :: .int x :: S) := by
  subst hp; exact Gl.st (fun _ q => XS.icmpNo W.1.here W.2.1 rfl hd rfl hc q) K
theorem o_ifnullY (W : Wk p l e R s m args below meth c own Z hb ws I T h locs cells slots) {o : Int} (pc' : Nat) (hd : decode c.code pc = .ok (.ifnull o, 3)) (ho : 0 ≤ (pc : Int) + o) (hp : ((pc : Int) + o).toNat = pc') (K : Gl p.tables e below P T m pc' L S) : Gl p.tables e below P T m pc L (.null :: S) := by
  exact Gl.st (fun _ q => XS.ifnullYes W.1.here W.2.1 rfl (pc0 := pc) rfl hd rfl ho hp q) K
theorem o_ifnullN (W : Wk p l e R s m args below meth c own Z hb ws I T h locs cells slots) {o : Int} {b : Addr} (pc' : Nat) (hd : decode c.code pc = .ok (.ifnull o, 3)) (hp : pc + 3 = pc') (K : Gl p.tables e below P T m pc' L S) : Gl p.tables e below P T m pc L (.ref b :: S) := by
  subst hp; exact Gl.st (fun _ q => XS.ifnullNo W.1.here W.2.1 rfl hd rfl q) K
theorem o_getF (W : Wk p l e R s m args below meth c own Z hb ws I T h locs cells slots) {R0 O n d : String} {index : Nat} (w : (Cond.fieldLink own index R0 n d).before a0 Z = true) (via : Via Z R0 O n d) {a : Addr} {v : Value} (F : Fld Z h a O n d v) (pc' : Nat) (hd : decode c.code pc = .ok (.getfield index, 3)) (hp : pc + 3 = pc')
    (K : ∀ T', Wk p l e R s m args below meth c own Z hb ws I T' h locs cells slots → Gl p.tables e below P T' m pc' L (v :: S)) : Gl p.tables e below P T m pc L (.ref a :: S) := by
  subst hp
  obtain ⟨X, hx, eT, hZ, ho, r⟩ := W
  obtain ⟨T', X', e', st⟩ := getF X hx hZ ho (host := "") (Or.inl w) via eT F (g := mkF m pc L (.ref a :: S)) rfl rfl hd
  exact Gl.st st (K T' ⟨X', hx, e', hZ, ho, r⟩)
theorem o_getS (W : Wk p l e R s m args below meth c own Z hb ws I T h locs cells slots) {R0 O n d : String} {index : Nat} (w : (Cond.fieldLink own index R0 n d).before a0 Z = true) (via : Via Z R0 O n d) {v : Value} (F : Sta Z h O n d v) (pc' : Nat) (hd : decode c.code pc = .ok (.getstatic index, 3)) (hp : pc + 3 = pc')
    (K : ∀ T', Wk p l e R s m args below meth c own Z hb ws I T' h locs cells slots → Gl p.tables e below P T' m pc' L (v :: S)) : Gl p.tables e below P T m pc L S := by
  subst hp
  obtain ⟨X, hx, eT, hZ, ho, r⟩ := W
  obtain ⟨T', X', e', st⟩ := getS (host := "") X hx hZ ho w via eT F (g := mkF m pc L S) rfl hd
  exact Gl.st st (K T' ⟨X', hx, e', hZ, ho, r⟩)
theorem o_putF (W : Wk p l e R s m args below meth c own Z hb ws I T h locs cells slots) {R0 O n d C : String} {index kk : Nat} {ty : FieldType} (w : (Cond.fieldLink own index R0 n d).before a0 Z = true) (via : Via Z R0 O n d) {a : Addr} {v v' old : Value} (F : Fld Z h a O n d old) (E : Exa Z h a C)
    (Lz : (Cond.lays C O n d).before a0 Z = true ∨ ((Cond.laysFinal C O n d).before a0 Z = true ∧ own = O ∧ meth.name = "<init>")) (wi : (Cond.instantiable C kk).before a0 Z = true) (hty : parseFieldDescriptor d = some ty) (hn : narrow ty v = v') (hf : fits ty v' = true)
    (g1 : Z.heap.size ≤ a) (g2 : a ∈ ws ∨ hb.size ≤ a) (hI : ∀ h', Wr h h' a (Jvm.RoadKit.slotOf Z O n d) v' → I h') (pc' : Nat) (hd : decode c.code pc = .ok (.putfield index, 3)) (hp : pc + 3 = pc')
    (K : ∀ T' h' locs', Wk p l e R s m args below meth c own Z hb ws I T' h' locs' cells slots → Wr h h' a (Jvm.RoadKit.slotOf Z O n d) v' → Gl p.tables e below P T' m pc' L S) : Gl p.tables e below P T m pc L (v :: .ref a :: S) := by
  subst hp
  obtain ⟨X, hx, eT, hZ, ho, o, fr, kp, i⟩ := W
  obtain ⟨T', h', X', e', Wr', st⟩ := putFN X hx hZ ho w via eT F E Lz wi hty hn hf (g := mkF m pc L (v :: .ref a :: S)) rfl rfl hd
  exact Gl.st st (K T' h' _ ⟨X', hx, e', hZ, ho, o.wr Wr' g1, Fr.snoc X' fr g1, kp.wr Wr' g2, hI _ Wr'⟩ Wr')
theorem o_new (W : Wk p l e R s m args below meth c own Z hb ws I T h locs cells slots) {C : String} {index n : Nat} (w : (Cond.classLink own index C).before a0 Z = true) (wi : (Cond.instantiable C n).before a0 Z = true) (wz : (Cond.initialized C).before a0 Z = true) (hI : ∀ h', Ext h h' → I h')
    (pc' : Nat) (hd : decode c.code pc = .ok (.new index, 3)) (hp : pc + 3 = pc') (hc' : cells + 1 = cells') (hs' : slots + n = slots') (hc : cells' ≤ R.cells) (hs : slots' ≤ R.slots)
    (K : ∀ b T' h', Wk p l e R s m args below meth c own Z hb ws I T' h' locs cells' slots' → Ext h h' → h.size ≤ b → Z.heap.size ≤ b → hb.size ≤ b → Exa Z h' b C → (∀ {O nm d : String} {ty : FieldType}, Laid Z a0 C O nm d → parseFieldDescriptor d = some ty → Fld Z h' b O nm d (defaultValue ty)) → Gl p.tables e below P T' m pc' L (.ref b :: S)) : Gl p.tables e below P T m pc L S := by
  subst hp hc' hs'
  obtain ⟨X, hx, eT, hZ, ho, o, fr, kp, i⟩ := W
  obtain ⟨T', h', X', e', E, A, D, -, st⟩ := newO X hx hZ ho w wi wz eT (g := mkF m pc L S) rfl hd hc hs
  exact Gl.st st (K _ T' h' ⟨X', hx, e', hZ, ho, o.ext E, fr, kp.ext E, hI _ E⟩ E (Nat.le_refl _) o.2.1 kp.1 A D)
theorem o_newP (W : Wk p l e R s m args below meth c own Z hb ws I T h locs cells slots) {aty : ArrayType} (w : (Cond.arrayClass (newarray.typeOf aty)).before a0 Z = true) (hI : ∀ h', Ext h h' → I h') {n : Int32} (hn : ¬ n < 0) {cap : Nat} (hcap : n.toNatClampNeg ≤ cap) (hb8 : cap * 8 ≤ 536870912)
    (pc' : Nat) (hd : decode c.code pc = .ok (.newarray aty, 2)) (hp : pc + 2 = pc') (hc' : cells + 1 = cells') (hs' : slots + cap = slots') (hc : cells' ≤ R.cells) (hs : slots' ≤ R.slots) {vs : List Value} {dv : Value} (hdv : defaultValue (newarray.typeOf aty) = dv) (hv : vs = List.replicate vs.length dv)
    (K : ∀ b T' h' k, Wk p l e R s m args below meth c own Z hb ws I T' h' locs cells' slots' → Ext h h' → h.size ≤ b → Z.heap.size ≤ b → hb.size ≤ b → Arv Z h' b k (newarray.typeOf aty) n vs dv → Gl p.tables e below P T' m pc' L (.ref b :: S)) : Gl p.tables e below P T m pc L (.int n :: S) := by
  subst hp hc' hs' hdv
  obtain ⟨X, hx, eT, hZ, ho, o, fr, kp, i⟩ := W
  obtain ⟨T', h', k, X', e', E, A, st⟩ := newP X hx hZ w eT (g := mkF m pc L (.int n :: S)) rfl hd rfl hn hcap hb8 hc hs
  exact Gl.st st (K _ T' h' k ⟨X', hx, e', hZ, ho, o.ext E, fr, kp.ext E, hI _ E⟩ E (Nat.le_refl _) o.2.1 kp.1 ((Arv.new A hn).pad (by rw [hv]; exact pad_rep [] _ _)))
theorem o_len (W : Wk p l e R s m args below meth c own Z hb ws I T h locs cells slots) {a : Addr} {k : ClassId} {ty : FieldType} {z : Int32} {vs : List Value} {dv : Value} (V : Arv Z h a k ty z vs dv) (pc' : Nat) (hd : decode c.code pc = .ok (.arraylength, 1)) (hp : pc + 1 = pc')
    (K : Gl p.tables e below P T m pc' L (.int z :: S)) : Gl p.tables e below P T m pc L (.ref a :: S) := by
  subst hp
  obtain ⟨X, hx, eT, hZ, ho, r⟩ := W
  obtain ⟨cl, A, -, Sz, N, -⟩ := V
  refine Gl.st (X.arraylength hx (by rw [eT]; exact A.1) (State.isArrayOf_alike hZ.alike A.2.1) (g := mkF m pc L (.ref a :: S)) rfl rfl hd) ?_
  rw [len_of Sz N]; exact K
theorem own_inb {z j : Int32} {c : Cell} {i : Nat} (Sz : c.slots.size = z.toNatClampNeg) (hj : j.toNatClampNeg = i) (hj0 : ¬ j < 0) (hi : i < z.toNatClampNeg) : ¬ (j < 0 ∨ c.slots.size ≤ j.toNatClampNeg) := by
  rintro (q | q)
  · exact hj0 q
  · rw [Sz, hj] at q; omega
theorem o_stC (W : Wk p l e R s m args below meth c own Z hb ws I T h locs cells slots) {a : Addr} {k : ClassId} {z : Int32} {vs vs' : List Value} {dv : Value} (V : Arv Z h a k .char z vs dv) {j x x' : Int32} {i : Nat} (hj : j.toNatClampNeg = i) (hj0 : ¬ j < 0) (hi : i < z.toNatClampNeg) (hi' : i < vs.length) (hx' : nar .char x = x') (hv : vs.set i (.int x') = vs')
    (g1 : Z.heap.size ≤ a) (g2 : a ∈ ws ∨ hb.size ≤ a) (hI : ∀ h', Wr h h' a i (.int x') → I h') (pc' : Nat) (hd : decode c.code pc = .ok (.castore, 1)) (hp : pc + 1 = pc')
    (K : ∀ T' h' locs', Wk p l e R s m args below meth c own Z hb ws I T' h' locs' cells slots → Wr h h' a i (.int x') → Arv Z h' a k .char z vs' dv → Gl p.tables e below P T' m pc' L S) : Gl p.tables e below P T m pc L (.int x :: .int j :: .ref a :: S) := by
  subst hp hx' hv
  obtain ⟨X, hx, eT, hZ, ho, o, fr, kp, i'⟩ := W
  obtain ⟨cl, A, q, Sz, N, H, G⟩ := V
  obtain ⟨T', h', X', e', Wr', st⟩ := stC X hx hZ eT A (own_inb Sz hj hj0 hi) (g := mkF m pc L (.int x :: .int j :: .ref a :: S)) rfl rfl hd
  have V' := Arv.set A q Sz N H G (fits_nar_char x) Wr' i hj hi'
  subst hj
  exact Gl.st st (K T' h' _ ⟨X', hx, e', hZ, ho, o.wr Wr' g1, Fr.snoc X' fr g1, kp.wr Wr' g2, hI _ Wr'⟩ Wr' V')
theorem o_stB (W : Wk p l e R s m args below meth c own Z hb ws I T h locs cells slots) {a : Addr} {k : ClassId} {z : Int32} {vs vs' : List Value} {dv : Value} (V : Arv Z h a k .byte z vs dv) {j x x' : Int32} {i : Nat} (hj : j.toNatClampNeg = i) (hj0 : ¬ j < 0) (hi : i < z.toNatClampNeg) (hi' : i < vs.length) (hx' : nar .byte x = x') (hv : vs.set i (.int x') = vs')
    (g1 : Z.heap.size ≤ a) (g2 : a ∈ ws ∨ hb.size ≤ a) (hI : ∀ h', Wr h h' a i (.int x') → I h') (pc' : Nat) (hd : decode c.code pc = .ok (.bastore, 1)) (hp : pc + 1 = pc')
    (K : ∀ T' h' locs', Wk p l e R s m args below meth c own Z hb ws I T' h' locs' cells slots → Wr h h' a i (.int x') → Arv Z h' a k .byte z vs' dv → Gl p.tables e below P T' m pc' L S) : Gl p.tables e below P T m pc L (.int x :: .int j :: .ref a :: S) := by
  subst hp hx' hv
  obtain ⟨X, hx, eT, hZ, ho, o, fr, kp, i'⟩ := W
  obtain ⟨cl, A, q, Sz, N, H, G⟩ := V
  obtain ⟨T', h', X', e', Wr', st⟩ := stB X hx hZ eT A (own_inb Sz hj hj0 hi) (g := mkF m pc L (.int x :: .int j :: .ref a :: S)) rfl rfl hd
  have V' := Arv.set A q Sz N H G (fits_nar_byte x) Wr' i hj hi'
  subst hj
  exact Gl.st st (K T' h' _ ⟨X', hx, e', hZ, ho, o.wr Wr' g1, Fr.snoc X' fr g1, kp.wr Wr' g2, hI _ Wr'⟩ Wr' V')
theorem o_caload (W : Wk p l e R s m args below meth c own Z hb ws I T h locs cells slots) {a : Addr} {k : ClassId} {z : Int32} {vs : List Value} {dv : Value} (V : Arv Z h a k .char z vs dv) {j x : Int32} {i : Nat} (hj : j.toNatClampNeg = i) (hj0 : ¬ j < 0) (hi : i < z.toNatClampNeg) (hv : vs.getD i dv = .int x) (pc' : Nat) (hd : decode c.code pc = .ok (.caload, 1)) (hp : pc + 1 = pc')
    (K : Gl p.tables e below P T m pc' L (.int x :: S)) : Gl p.tables e below P T m pc L (.int j :: .ref a :: S) := by
  subst hp hj
  obtain ⟨X, hx, eT, hZ, ho, r⟩ := W
  obtain ⟨cl, A, -, Sz, N, H, -⟩ := V
  have hin := own_inb Sz rfl hj0 hi
  exact Gl.st (X.caload hx (by rw [eT]; exact A.1) (State.isArrayOf_alike hZ.alike A.2.1) A.2.2 hin (H.at hin hv) (g := mkF m pc L (.int j :: .ref a :: S)) rfl rfl hd) K
theorem o_baload (W : Wk p l e R s m args below meth c own Z hb ws I T h locs cells slots) {a : Addr} {k : ClassId} {z : Int32} {vs : List Value} {dv : Value} (V : Arv Z h a k .byte z vs dv) {j x : Int32} {i : Nat} (hj : j.toNatClampNeg = i) (hj0 : ¬ j < 0) (hi : i < z.toNatClampNeg) (hv : vs.getD i dv = .int x) (pc' : Nat) (hd : decode c.code pc = .ok (.baload, 1)) (hp : pc + 1 = pc')
    (K : Gl p.tables e below P T m pc' L (.int x :: S)) : Gl p.tables e below P T m pc L (.int j :: .ref a :: S) := by
  subst hp hj
  obtain ⟨X, hx, eT, hZ, ho, r⟩ := W
  obtain ⟨cl, A, -, Sz, N, H, -⟩ := V
  have hin := own_inb Sz rfl hj0 hi
  exact Gl.st (X.baloadBytes hx (by rw [eT]; exact A.1) (State.isArrayOf_alike hZ.alike A.2.1) A.2.2 hin (H.at hin hv) (g := mkF m pc L (.int j :: .ref a :: S)) rfl rfl hd) K
theorem o_ldcI (W : Wk p l e R s m args below meth c own Z hb ws I T h locs cells slots) {index : Nat} {v : Int32} (w : (Cond.constant own index v).before a0 Z = true) (pc' : Nat) (hd : decode c.code pc = .ok (.ldc index, 2)) (hp : pc + 2 = pc') (K : Gl p.tables e below P T m pc' L (.int v :: S)) : Gl p.tables e below P T m pc L S := by
  subst hp
  exact Gl.st (W.1.ldcInt W.2.1 W.2.2.2.2.1 (mvT W.2.2.2.1 w) (g := mkF m pc L S) rfl hd) K
theorem o_initO (W : Wk p l e R s m args below meth c own Z hb ws I T h locs cells slots) {idx : Nat} (w1 : (Cond.methodLink own idx Lib.objectInit).before a0 Z = true) (w2 : (Cond.instanceMethod Lib.objectInit).before a0 Z = true) (w3 : (Cond.code Lib.objectInit ⟨#[0xb1]⟩ 1 none).before a0 Z = true) {a : Addr} (hml : L.size = c.maxLocals)
    (pc' : Nat) (hd : decode c.code pc = .ok (.invokespecial idx, 3)) (hp : pc + 3 = pc') (hf : 1 ≤ R.frames) (Wd : Nat) (hW : 2 * 0 + (S.map fun v => v.category).sum ≤ Wd) (hl : Wd + 12 ≤ R.locals)
    (K : ∀ T', Wk p l e R s m args below meth c own Z hb ws I T' h locs cells slots → Gl p.tables e below P T' m pc' L S) : Gl p.tables e below P T m pc L (.ref a :: S) := by
  subst hp
  obtain ⟨X, hx, eT, hZ, ho, r⟩ := W
  obtain ⟨T', X', e', st⟩ := initO X hx hZ ho w1 w2 w3 eT (g := mkF m pc L (.ref a :: S)) rfl hml rfl hd hf hW hl
  exact Gl.st st (K T' ⟨X', hx, e', hZ, ho, r⟩)
abbrev BackQ (l : Launch) (R : Room) (p : Program) (e : Env) (below : List Frame) (s : State) (args : Array Value) (y : MethodName) (len Wd : Nat) (as' : Array Value) (h : Heap) (kc ks : Nat) (Q : Option Value → Heap → List Loc → Prop) : Prop :=
  Back l R p e below s args y len Wd (fun A a => a = as' ∧ A.U.heap = h ∧ A.cells + kc ≤ R.cells ∧ A.slots + ks ≤ R.slots) (fun A _ v B => ∃ L, Q v B.U.heap L ∧ B.locs = A.locs ++ L ∧ B.cells = A.cells + kc ∧ B.slots = A.slots + ks)
theorem o_after (W : Wk p l e R s m args below meth c own Z hb ws I T h locs cells slots) {B : Pt} {v : Option Value} {kc ks : Nat} {Q : Option Value → Heap → List Loc → Prop} {wy : List Addr} (X' : Stand p l e R s m args below meth c B.U B.locs B.cells B.slots) (hpost : ∃ L, Q v B.U.heap L ∧ B.locs = locs ++ L ∧ B.cells = cells + kc ∧ B.slots = slots + ks)
    (hq : ∀ v hh L, Q v hh L → Fr Z.heap.size L ∧ Keep h hh wy) (hg : ∀ x ∈ wy, Z.heap.size ≤ x ∧ (x ∈ ws ∨ hb.size ≤ x)) (hI : ∀ h', Keep h h' wy → I h') :
    ∃ L, Q v B.U.heap L ∧ Keep h B.U.heap wy ∧ Wk p l e R s m args below meth c own Z hb ws I B.U B.U.heap (locs ++ L) (cells + kc) (slots + ks) := by
  obtain ⟨X, hx, eT, hZ, ho, o, fr, kp, i⟩ := W
  obtain ⟨⟨U, lo, kc', ks'⟩, rfl⟩ : ∃ B', B' = B := ⟨_, rfl⟩
  obtain ⟨L', q, e1, e2, e3⟩ := hpost
  have e1 : lo = locs ++ L' := e1
  have e2 : kc' = cells + kc := e2
  have e3 : ks' = slots + ks := e3
  subst e1 e2 e3
  obtain ⟨f, k⟩ := hq _ _ _ q
  exact ⟨L', q, k, X', hx, rfl, hZ, ho, o.keep k (fun x hx => (hg x hx).1), fr.app f, kp.trans k (fun x hx => (hg x hx).2), hI _ k⟩
theorem o_static (W : Wk p l e R s m args below meth c own Z hb ws I T h locs cells slots) {index : Nat} {y : MethodName} {bytes : ByteArray} {maxL : Nat} {ret : Option FieldType} (w1 : (Cond.methodLink own index y).before a0 Z = true) (w2 : (Cond.static y).before a0 Z = true) (w3 : (Cond.initialized y.cls).before a0 Z = true) (w4 : (Cond.code y bytes maxL ret).before a0 Z = true)
    (hy : y.cls ≠ "java/lang/invoke/MethodHandle" ∧ y.cls ≠ "java/lang/invoke/VarHandle") {Wd kc ks : Nat} {Q : Option Value → Heap → List Loc → Prop} {argsL : List Value} (B : BackQ l R p e below s args y 3 Wd argsL.toArray h kc ks Q) (hml : L.size = c.maxLocals)
    (hlen : ∀ sig, parseMethodDescriptor y.desc = some sig → argsL.length = sig.parameters.length) {S0 : List Value} (hS : S0 = argsL.reverse ++ S) (hW : 2 * 0 + (S.map fun v => v.category).sum ≤ Wd) (pc' : Nat) (hd : decode c.code pc = .ok (.invokestatic index, 3)) (hp : pc + 3 = pc')
    (hc' : cells + kc = cells') (hs' : slots + ks = slots') (hc : cells' ≤ R.cells) (hs : slots' ≤ R.slots) {wy : List Addr} (hq : ∀ v hh L, Q v hh L → Fr Z.heap.size L ∧ Keep h hh wy) (hg : ∀ x ∈ wy, Z.heap.size ≤ x ∧ (x ∈ ws ∨ hb.size ≤ x)) (hI : ∀ h', Keep h h' wy → I h')
    (K : ∀ v T' h' Lc, Wk p l e R s m args below meth c own Z hb ws I T' h' (locs ++ Lc) cells' slots' → Keep h h' wy → Q v h' Lc → Gl p.tables e below P T' m pc' L (v.toList ++ S)) : Gl p.tables e below P T m pc L S0 := by
  subst hp hc' hs' hS
  obtain ⟨v, vm₁, B', -, X', hpost, st⟩ := Jvm.LawKit.callS W.1 W.2.1 W.2.2.2.2.1 (mvT W.2.2.2.1 w1) (mvT W.2.2.2.1 w2) (mvT W.2.2.2.1 w3) (mvT W.2.2.2.1 w4) hy B (g := mkF m pc L (argsL.reverse ++ S)) rfl hml hlen rfl hW hd (fun _ _ => ⟨rfl, W.2.2.1, hc, hs⟩)
  obtain ⟨Lc, q, k, W'⟩ := o_after W X' hpost hq hg hI
  exact Gl.st st (K v _ _ Lc W' k q)
theorem o_special (W : Wk p l e R s m args below meth c own Z hb ws I T h locs cells slots) {index : Nat} {y : MethodName} {bytes : ByteArray} {maxL : Nat} (hy1 : y.name = "<init>") (w1 : (Cond.methodLink own index y).before a0 Z = true) (w2 : (Cond.instanceMethod y).before a0 Z = true) (w4 : (Cond.code y bytes maxL none).before a0 Z = true)
    (hy : y.cls ≠ "java/lang/invoke/MethodHandle" ∧ y.cls ≠ "java/lang/invoke/VarHandle") {Wd kc ks : Nat} {Q : Option Value → Heap → List Loc → Prop} {a : Addr} {argsL : List Value} (B : BackQ l R p e below s args y 3 Wd (.ref a :: argsL).toArray h kc ks Q) (hml : L.size = c.maxLocals)
    (hlen : ∀ sig, parseMethodDescriptor y.desc = some sig → argsL.length = sig.parameters.length) {S0 : List Value} (hS : S0 = argsL.reverse ++ .ref a :: S) (hW : 2 * 0 + (S.map fun v => v.category).sum ≤ Wd) (pc' : Nat) (hd : decode c.code pc = .ok (.invokespecial index, 3)) (hp : pc + 3 = pc')
    (hc' : cells + kc = cells') (hs' : slots + ks = slots') (hc : cells' ≤ R.cells) (hs : slots' ≤ R.slots) {wy : List Addr} (hq : ∀ v hh L, Q v hh L → Fr Z.heap.size L ∧ Keep h hh wy) (hg : ∀ x ∈ wy, Z.heap.size ≤ x ∧ (x ∈ ws ∨ hb.size ≤ x)) (hI : ∀ h', Keep h h' wy → I h')
    (K : ∀ v T' h' Lc, Wk p l e R s m args below meth c own Z hb ws I T' h' (locs ++ Lc) cells' slots' → Keep h h' wy → Q v h' Lc → Gl p.tables e below P T' m pc' L (v.toList ++ S)) : Gl p.tables e below P T m pc L S0 := by
  subst hp hc' hs' hS
  obtain ⟨v, vm₁, B', -, X', hpost, st⟩ := W.1.specialBack W.2.1 hy1 W.2.2.2.2.1 (mvT W.2.2.2.1 w1) (mvT W.2.2.2.1 w2) (mvT W.2.2.2.1 w4) hy B (g := mkF m pc L (argsL.reverse ++ .ref a :: S)) rfl hml (Steps.refl _) hlen rfl hW hd (fun _ _ => ⟨rfl, W.2.2.1, hc, hs⟩)
  obtain ⟨Lc, q, k, W'⟩ := o_after W X' hpost hq hg hI
  exact Gl.tr st (K v _ _ Lc W' k q)
theorem o_virtual (W : Wk p l e R s m args below meth c own Z hb ws I T h locs cells slots) {index : Nat} {C : String} {y z : MethodName} (w1 : (Cond.methodLink own index y).before a0 Z = true) (w2 : (Cond.declares y).before a0 Z = true) (hnf : NotFace s y) (w3 : (Cond.selects C y z).before a0 Z = true) (w4 : (Cond.instanceMethod z).before a0 Z = true)
    (hy : y.cls ≠ "java/lang/invoke/MethodHandle" ∧ y.cls ≠ "java/lang/invoke/VarHandle") {Wd kc ks : Nat} {Q : Option Value → Heap → List Loc → Prop} {a : Addr} (E : Exa Z h a C) {argsL : List Value} (B : BackQ l R p e below s args z 3 Wd (.ref a :: argsL).toArray h kc ks Q) (hml : L.size = c.maxLocals)
    (hlen : ∀ sig, parseMethodDescriptor y.desc = some sig → argsL.length = sig.parameters.length) {S0 : List Value} (hS : S0 = argsL.reverse ++ .ref a :: S) (hW : 2 * 0 + (S.map fun v => v.category).sum ≤ Wd) (pc' : Nat) (hd : decode c.code pc = .ok (.invokevirtual index, 3)) (hp : pc + 3 = pc')
    (hc' : cells + kc = cells') (hs' : slots + ks = slots') (hc : cells' ≤ R.cells) (hs : slots' ≤ R.slots) {wy : List Addr} (hq : ∀ v hh L, Q v hh L → Fr Z.heap.size L ∧ Keep h hh wy) (hg : ∀ x ∈ wy, Z.heap.size ≤ x ∧ (x ∈ ws ∨ hb.size ≤ x)) (hI : ∀ h', Keep h h' wy → I h')
    (K : ∀ v T' h' Lc, Wk p l e R s m args below meth c own Z hb ws I T' h' (locs ++ Lc) cells' slots' → Keep h h' wy → Q v h' Lc → Gl p.tables e below P T' m pc' L (v.toList ++ S)) : Gl p.tables e below P T m pc L S0 := by
  subst hp hc' hs' hS
  obtain ⟨cB, kB, q1, q2, q3⟩ := isOf W.2.2.2.1 W.2.2.1 E
  obtain ⟨v, vm₁, B', -, X', hpost, st⟩ := W.1.virtualBack W.2.1 W.2.2.2.2.1 (mvT W.2.2.2.1 w1) (mvT W.2.2.2.1 w2) hnf (mvT W.2.2.2.1 w3) (mvT W.2.2.2.1 w4) hy B q1 q3 (g := mkF m pc L (argsL.reverse ++ .ref a :: S)) rfl hml (Steps.refl _) hlen rfl hW hd (fun _ _ => ⟨rfl, W.2.2.1, hc, hs⟩)
  obtain ⟨Lc, q, k, W'⟩ := o_after W X' hpost hq hg hI
  exact Gl.tr st (K v _ _ Lc W' k q)
theorem o_nf (W : Wk p l e R s m args below meth c own Z hb ws I T h locs cells slots) {C : String} {y z : MethodName} (hyz : y = z) (w : (Cond.selects C y z).before a0 Z = true) : NotFace s y := by
  subst hyz
  exact notFace_of_selects (args := #[]) (mvT W.2.2.2.1 w)
def CtrN (l : Launch) (Z : State) (y : MethodName) (bytes : ByteArray) (maxL : Nat) (ret : Option FieldType) (xs : List Jvm.Cond) (rm : Room) (as' : Array Value) (h0 : Heap) (wy : List Addr) (Q : Option Value → Heap → Prop) : Prop :=
  MetFree l y (head1 (Jvm.Cond.code y bytes maxL ret :: xs) rm) (fun a U => a = as' ∧ Z.Warmed39 U.vm ∧ U.heap = h0) (fun _ _ _ _ _ => True) (fun _ U o U' => ∃ v L, o = .returned v ∧ (Fr Z.heap.size L ∧ Keep h0 U'.heap wy ∧ Q v U'.heap) ∧ FrameEnd U o U' L rm.cells rm.slots)
def PN (s : State) (Z : State) (below : List Frame) (h0 : Heap) (wy : List Addr) (rm : Room) (Q : Option Value → Heap → Prop) (s₂ : State) (o : Outcome) : Prop := s₂.status = .running ∧ Ended s₂ below o ∧ ∃ v L, o = .returned v ∧ (Fr Z.heap.size L ∧ Keep h0 s₂.heap wy ∧ Q v s₂.heap) ∧ FrameEnd s o s₂ L rm.cells rm.slots
theorem own_entry {as : List Value} {n : Nat} {Ls : List Slot} (h : Jvm.Sym.laidSlots as ++ List.replicate (n - (Jvm.Sym.laidSlots as).length) Slot.unset = Ls) (m : MethodId) : entryFrame m as.toArray n = mkF m 0 Ls.toArray [] := by
  have e : argsToLocals as.toArray n = Ls.toArray := Array.toList_inj.mp ((Jvm.Sym.argsToLocals_toList _ _).trans h)
  exact congrArg (fun L => mkF m 0 L []) e
theorem CtrN.intro {y : MethodName} {bytes : ByteArray} {maxL : Nat} {ret : Option FieldType} {xs : List Jvm.Cond} {rm : Room} {as' : Array Value} {h0 : Heap} {wy : List Addr} {Q : Option Value → Heap → Prop} {L0 : Array Slot} (hx : plainFor y = true) (O : Old Z Z.heap.size h0) (hef : ∀ m, entryFrame m as' maxL = mkF m 0 L0 [])
    (body : ∀ (p : Program) (e : Env) (s : State) (m : MethodId) (below : List Frame) (meth : Method) (c : Code) (T : State), c.code = bytes → c.maxLocals = maxL → meth.sig.returnType = ret → meth.locks = false → meth.name = y.name → Wk p l e rm s m as' below meth c y.cls Z h0 wy (fun _ => True) T h0 [] 0 0 → Gl p.tables e below (PN s Z below h0 wy rm Q) T m 0 L0 []) :
    CtrN l Z y bytes maxL ret xs rm as' h0 wy Q := by
  refine MetFree.of_bodySF hx hisR ?_
  intro p e s m args below meth c s₁ Bd hml hP hK
  obtain ⟨rfl, hZ, hh⟩ := hP
  have e0 : s₁.heap = h0 := by rw [← hh, Bd.state]; rfl
  obtain ⟨s2, o, g1, g2, g3, g4⟩ := body p e s m below meth c s₁ Bd.bytes hml Bd.returns Bd.notSynchronized (name_of_methodNamed Bd.named Bd.method).1 ⟨Stand.of_body Bd, Bd.exec, e0, hZ, findClass_of_methodNamed Bd.named, O, Fr.nil _, Keep.refl _ _, trivial⟩
  exact ⟨s2, o, castTop (hef m) g1, g2, g3, g4⟩
theorem CtrN.back {y : MethodName} {bytes : ByteArray} {maxL : Nat} {ret : Option FieldType} {rm : Room} {as' : Array Value} {wy : List Addr} {Q : Option Value → Heap → Prop} {len Wd : Nat} (W : Wk p l e R s m args below meth c own Z hb ws I T h locs cells slots) (C : CtrN l Z y bytes maxL ret [] rm as' h wy Q) (wc : (Cond.code y bytes maxL ret).before a0 Z = true) (wz : (Cond.initialized y.cls).before a0 Z = true)
    (hf : rm.frames + 1 ≤ R.frames) (hl : Wd + (maxL + 11) + rm.locals ≤ R.locals) : BackQ l R p e below s args y len Wd as' h rm.cells rm.slots (fun v hh L => Fr Z.heap.size L ∧ Keep h hh wy ∧ Q v hh) :=
  backOf (Q := fun v hh L => Fr Z.heap.size L ∧ Keep h hh wy ∧ Q v hh) C W.2.2.2.1 wc wz hf hl
theorem o_leaveN {y0 : List Addr} {Q : Option Value → Heap → Prop} {rm : Room} (W : Wk p l e rm s m args below meth c own Z hb ws I T h locs cells slots) (hlk : meth.locks = false) {v : Option Value} (hv : meth.sig.returnType = none → v = none) (hq : Q v h) (hc : cells ≤ rm.cells) (hs : slots ≤ rm.slots) (st : ∀ fs, (∀ (f : JFrame) (acts : List Action), f.method = m → f.locked = none → f.entered = [] → (doReturn e (T.setTop f) acts v).1 = T.setFrames fs) → Steps p.tables e below (T.setTop (mkF m pc L S)) (T.setFrames fs)) :
    Gl p.tables e below (PN s Z below hb ws rm Q) T m pc L S := by
  obtain ⟨X, hx, eT, hZ, ho, o, fr, kp, i⟩ := W
  obtain ⟨fs, hr, hrun, hended, hW, hsame⟩ := X.leave (v := v) hv
  have eh : (T.setFrames fs).heap = h := eT
  exact ⟨_, _, st fs hr, hrun, hended, v, locs, rfl, ⟨fr, by rw [eh]; exact kp, by rw [eh]; exact hq⟩, ⟨_, rfl⟩, hW, hsame.mono hc hs⟩
theorem o_retI (W : Wk p l e R s m args below meth c own Z hb ws I T h locs cells slots) (hlk : meth.locks = false) {Q : Option Value → Heap → Prop} {z : Int32} (hret : meth.sig.returnType = some .int) (hd : decode c.code pc = .ok (.ireturn, 1)) (hc : cells ≤ R.cells) (hs : slots ≤ R.slots) (hq : Q (some (.int z)) h) : Gl p.tables e below (PN s Z below hb ws R Q) T m pc L (.int z :: S) :=
  o_leaveN (y0 := []) W hlk (fun q => by rw [hret] at q; cases q) hq hc hs fun fs hr => retOut W.1 W.2.1 hret rfl (Or.inl ⟨rfl, Or.inl rfl, _, rfl⟩) hd hr
theorem o_retN (W : Wk p l e R s m args below meth c own Z hb ws I T h locs cells slots) (hlk : meth.locks = false) {Q : Option Value → Heap → Prop} {z z' : Int32} {t : FieldType} (hret : meth.sig.returnType = some t) (ht : t = .boolean ∨ t = .byte ∨ t = .char ∨ t = .short) (hz : nar t z = z') (hd : decode c.code pc = .ok (.ireturn, 1)) (hc : cells ≤ R.cells) (hs : slots ≤ R.slots) (hq : Q (some (.int z')) h) : Gl p.tables e below (PN s Z below hb ws R Q) T m pc L (.int z :: S) := by
  subst hz
  exact o_leaveN (y0 := []) W hlk (fun q => by rw [hret] at q; cases q) hq hc hs fun fs hr => retN W.1 W.2.1 hret ht hd hr
theorem o_retA (W : Wk p l e R s m args below meth c own Z hb ws I T h locs cells slots) (hlk : meth.locks = false) {Q : Option Value → Heap → Prop} {t : FieldType} {v : Value} (hret : meth.sig.returnType = some t) (ht : t.isReference = true) (hv : v.isRef = true) (hd : decode c.code pc = .ok (.areturn, 1)) (hc : cells ≤ R.cells) (hs : slots ≤ R.slots) (hq : Q (some v) h) : Gl p.tables e below (PN s Z below hb ws R Q) T m pc L (v :: S) :=
  o_leaveN (y0 := []) W hlk (fun q => by rw [hret] at q; cases q) hq hc hs fun fs hr => retOut W.1 W.2.1 hret (by cases v <;> first | (cases hv; done) | (cases t <;> first | (cases ht; done) | rfl)) (Or.inr (Or.inr (Or.inr (Or.inr ⟨rfl, ht, hv⟩)))) hd hr
theorem o_ret0 (W : Wk p l e R s m args below meth c own Z hb ws I T h locs cells slots) (hlk : meth.locks = false) {Q : Option Value → Heap → Prop} (hret : meth.sig.returnType = none) (hd : decode c.code pc = .ok (.return_, 1)) (hc : cells ≤ R.cells) (hs : slots ≤ R.slots) (hq : Q none h) : Gl p.tables e below (PN s Z below hb ws R Q) T m pc L [] :=
  o_leaveN (y0 := []) W hlk (fun _ => rfl) hq hc hs fun fs hr => W.1.returnOut W.2.1 hret hd hr
end OwnPre

section OwnWide
def IW (s : State) (Z : State) (EL : List (String × Nat)) (V : Vm) (h : Heap) : Prop := (∃ k0, s.Since V k0 ∧ k0 ≤ h.size) ∧ CHv Z EL V h ∧ CHr Z EL s.vm s.heap V h
variable {p : Program} {l : Launch} {e : Env} {R : Room} {s : State} {m : MethodId} {args : Array Value} {below : List Frame} {meth : Method} {c : Code} {T : State} {locs : List Loc} {cells slots cells' slots' : Nat} {Z : State} {a0 : Array Value} {h h' hb : Heap} {ws : List Addr} {own : String} {P : State → Outcome → Prop} {pc pc' : Nat} {L L' : Array Slot} {S : List Value} {EL : List (String × Nat)} {V : Vm}
theorem IW.ext (E : Ext h h') (i : IW s Z EL V h) : IW s Z EL V h' := by
  obtain ⟨⟨k0, h1, h2⟩, h3, h4⟩ := i
  exact ⟨⟨k0, h1, Nat.le_trans h2 E.1⟩, h3.ext E, h4.trans (CHr.ext E h3)⟩
theorem IW.wr {a : Addr} {sl : Nat} {v : Value} (W : Wr h h' a sl v) (S : Safe Z EL V h a) (i : IW s Z EL V h) : IW s Z EL V h' := by
  obtain ⟨⟨k0, h1, h2⟩, h3, h4⟩ := i
  exact ⟨⟨k0, h1, by rw [W.size]; exact h2⟩, h3.wr W S, h4.trans (CHr.wr W S h3)⟩
theorem IW.keep {wy : List Addr} (K : Keep h h' wy) (hs : ∀ x ∈ wy, Safe Z EL V h x) (i : IW s Z EL V h) : IW s Z EL V h' := by
  obtain ⟨⟨k0, h1, h2⟩, h3, h4⟩ := i
  exact ⟨⟨k0, h1, Nat.le_trans h2 K.1⟩, h3.keep K hs, h4.trans (CHr.keep K hs h3)⟩
theorem own_safeS {vm : Vm} {x : Addr} (hal : Z.vm.Alike vm) (E : Exa Z h x "java/lang/String") (F : Fld Z h x "java/lang/String" "value" "[B" .null) : Safe Z EL vm h x := fun B => by
  obtain ⟨pp, -, u, a, -, q, -, G, rfl | rfl⟩ := B
  · obtain ⟨cS, ⟨⟨g1, -, -, ⟨c1, k1, i1, f1, -⟩, -, -, -, v1, -⟩, -⟩, -⟩ := G
    obtain ⟨cell, cf, k, i, f, h1, h2, h3, h4, h5, h6, h7⟩ := F
    cases h1.symm.trans g1
    obtain ⟨k3, e3, -⟩ := State.fieldFound?_setVm (s := Z) hal h2
    have e4 := (show (Wst Z vm h).fieldFound? _ _ _ = _ from e3).symm.trans f1
    simp only [Option.some.injEq, Prod.mk.injEq] at e4
    rw [e4.2.2.2] at h7
    rw [h7] at v1
    simp at v1
  · have hA : (Wst Z vm h).isArrayOf q.SA .byte := by
      obtain ⟨cS, ⟨⟨-, -, -, -, -, -, -, -, -, -, g11, -⟩, -⟩, -⟩ := G
      exact g11
    have hc := G.hd
    obtain ⟨cell, k, h1, h2, h3, -, -⟩ := E
    cases h1.symm.trans hc
    obtain ⟨cS, -, -, hB, -⟩ := G
    have hB' : vm.findClass "[B" = some q.SA.cls := hB
    rw [hal.findClass] at hB'
    obtain ⟨ka, a1, a2⟩ := Vm.findClass_spec hB'
    obtain ⟨kb, b1, b2⟩ := Vm.findClass_spec h2
    cases a1.symm.trans b1
    rw [a2] at b2
    exact absurd b2 (by decide)
def ELn (Z : State) (a0 : Array Value) (EL : List (String × Nat)) (n : Nat) : Prop := ∀ p ∈ EL, ∃ text : String, (Cond.stringLink p.1 p.2 text).before a0 Z = true ∧ (∀ c ∈ text.toList, c.toNat < 256) ∧ text.toList.length ≠ n
theorem ELn.nil {n : Nat} : ELn Z a0 [] n := fun _ hp => by cases hp
theorem ELn.cons {n index : Nat} {text : String} (w : (Cond.stringLink own index text).before a0 Z = true) (ht : ∀ c ∈ text.toList, c.toNat < 256) (hn : text.toList.length ≠ n) (E : ELn Z a0 EL n) : ELn Z a0 ((own, index) :: EL) n := fun p hp => by
  rcases List.mem_cons.mp hp with rfl | hp
  · exact ⟨text, w, ht, hn⟩
  · exact E p hp
theorem o_ldcR (W : Wk p l e R (s.setVm V) m args below meth c own Z hb ws (IW s Z EL V) T h locs cells slots) {text : String} {index : Nat} (w : (Cond.stringLink own index text).before a0 Z = true) (wS : ∀ a ∈ Bundle.stringAtoms, a.before a0 Z = true) (hEL : EW Z a0 EL) (hmem : (own, index) ∈ EL) (pc' : Nat) (hd : decode c.code pc = .ok (.ldc index, 2)) (hp : pc + 2 = pc') {n : Nat} (hn : 4 * text.toList.length ≤ n) (hbig : n ≤ 536870912)
    (hc' : cells + 2 = cells') (hs' : slots + (n + 4) = slots') (hc : cells' ≤ R.cells) (hs : slots' ≤ R.slots) {vs : List Value} {z : Int32} (ht : (∀ c ∈ text.toList, c.toNat < 256) ∧ text.toList.map (fun c => Value.int (Jvm.Lit.byteI c.toNat.toUInt16)) = vs) (hz : ¬ z < 0) (hl : z.toNatClampNeg = vs.length)
    (K : ∀ a T' h' V' b k, Wk p l e R (s.setVm V') m args below meth c own Z hb ws (IW s Z EL V') T' h' locs cells' slots' → Ext h h' → CHr Z EL V h V' h' → Exa Z h' a "java/lang/String" → Fld Z h' a "java/lang/String" "coder" "B" (.int 0) → Fld Z h' a "java/lang/String" "value" "[B" (.ref b) → Arv Z h' b k .byte z vs (.int 0) → (∀ x, Safe Z EL V' h' x → x ≠ a ∧ x ≠ b) → Gl p.tables e below P T' m pc' L (.ref a :: S)) : Gl p.tables e below P T m pc L S := by
  subst hp hc' hs'
  obtain ⟨X, hx, eT, hZ, ho, o, fr, kp, ⟨k0, i1, i2⟩, i3, i4⟩ := W
  obtain ⟨a, T', h', k1, b, k, X', e', E, hS, hk, hW, hf, A1, A2, A3, A4, -, -, hC, -, hne, st⟩ := ldcCH X hx hZ ho w wS eT i1 i2 hEL hmem i3 ht hz hl (g := mkF m pc L S) rfl hd hn hbig hc hs
  exact Gl.st st (K a T' h' T'.vm b k ⟨X', hx, e', hW, hf, o.ext E, fr, kp.ext E, ⟨k1, hS, hk⟩, hC.1, i4.trans hC⟩ E hC A1 A2 A3 A4 hne)
def CtrW (l : Launch) (Z : State) (EL : List (String × Nat)) (y : MethodName) (bytes : ByteArray) (maxL : Nat) (ret : Option FieldType) (xs : List Jvm.Cond) (rm : Room) (as' : Array Value) (h0 : Heap) (wy : List Addr) (Q : Option Value → Heap → Prop) : Prop :=
  MetFree l y (head1 (Jvm.Cond.code y bytes maxL ret :: xs) rm) (fun a U => a = as' ∧ Z.Warmed39 U.vm ∧ U.heap = h0 ∧ CHv Z EL U.vm h0) (fun _ _ _ _ _ => True) (fun _ U o U' => ∃ v L, o = .returned v ∧ (Fr Z.heap.size L ∧ Keep h0 U'.heap wy ∧ Q v U'.heap) ∧ CHr Z EL U.vm U.heap U'.vm U'.heap ∧ ReturnedEndW U o U' L rm.cells rm.slots)
def PW (s : State) (Z : State) (EL : List (String × Nat)) (below : List Frame) (h0 : Heap) (wy : List Addr) (rm : Room) (Q : Option Value → Heap → Prop) (s₂ : State) (o : Outcome) : Prop := s₂.status = .running ∧ Ended s₂ below o ∧ ∃ v L, o = .returned v ∧ (Fr Z.heap.size L ∧ Keep h0 s₂.heap wy ∧ Q v s₂.heap) ∧ CHr Z EL s.vm s.heap s₂.vm s₂.heap ∧ ReturnedEndW s o s₂ L rm.cells rm.slots
theorem CtrW.intro {y : MethodName} {bytes : ByteArray} {maxL : Nat} {ret : Option FieldType} {xs : List Jvm.Cond} {rm : Room} {as' : Array Value} {h0 : Heap} {wy : List Addr} {Q : Option Value → Heap → Prop} {L0 : Array Slot} (hx : plainFor y = true) (O : Old Z Z.heap.size h0) (hef : ∀ m, entryFrame m as' maxL = mkF m 0 L0 [])
    (body : ∀ (p : Program) (e : Env) (s : State) (m : MethodId) (below : List Frame) (meth : Method) (c : Code) (T : State) (V : Vm), c.code = bytes → c.maxLocals = maxL → meth.sig.returnType = ret → meth.locks = false → meth.name = y.name → Wk p l e rm (s.setVm V) m as' below meth c y.cls Z h0 wy (IW s Z EL V) T h0 [] 0 0 → Gl p.tables e below (PW s Z EL below h0 wy rm Q) T m 0 L0 []) :
    CtrW l Z EL y bytes maxL ret xs rm as' h0 wy Q := by
  refine MetFree.of_bodySF hx hisR ?_
  intro p e s m args below meth c s₁ Bd hml hP hK
  obtain ⟨rfl, hZ, hh, hH⟩ := hP
  have e0 : s₁.heap = h0 := by rw [← hh, Bd.state]; rfl
  have hr : CHr Z EL s.vm s.heap s.vm h0 := by rw [hh]; exact CHr.refl hH
  have X : Stand p l e rm (s.setVm s.vm) m args below meth c s₁ [] 0 0 := Stand.of_body Bd
  obtain ⟨s2, o, g1, g2, g3, g4⟩ := body p e s m below meth c s₁ s.vm Bd.bytes hml Bd.returns Bd.notSynchronized (name_of_methodNamed Bd.named Bd.method).1 ⟨X, Bd.exec, e0, hZ, findClass_of_methodNamed Bd.named, O, Fr.nil _, Keep.refl _ _, ⟨0, (State.WarmedH.refl s).since _, Nat.zero_le _⟩, hH, hr⟩
  exact ⟨s2, o, castTop (hef m) g1, g2, g3, g4⟩
abbrev BackSQ (l : Launch) (R : Room) (p : Program) (e : Env) (below : List Frame) (s : State) (args : Array Value) (y : MethodName) (len Wd : Nat) (as' : Array Value) (h : Heap) (kc ks : Nat) (Q : Option Value → Heap → List Loc → Prop) (Z : State) (EL : List (String × Nat)) (V : Vm) : Prop :=
  BackS l R p e below s args y len Wd (fun A a => a = as' ∧ A.U.heap = h ∧ A.cells + kc ≤ R.cells ∧ A.slots + ks ≤ R.slots) (fun A _ v B => ∃ L, Q v B.U.heap L ∧ B.locs = A.locs ++ L ∧ B.cells = A.cells + kc ∧ B.slots = A.slots + ks ∧ CHr Z EL V h B.U.vm B.U.heap)
theorem CtrW.back {y : MethodName} {bytes : ByteArray} {maxL : Nat} {ret : Option FieldType} {rm : Room} {as' : Array Value} {wy : List Addr} {Q : Option Value → Heap → Prop} {len Wd : Nat} (W : Wk p l e R (s.setVm V) m args below meth c own Z hb ws (IW s Z EL V) T h locs cells slots) (C : CtrW l Z EL y bytes maxL ret [] rm as' h wy Q) (wc : (Cond.code y bytes maxL ret).before a0 Z = true) (wz : (Cond.initialized y.cls).before a0 Z = true)
    (hf : rm.frames + 1 ≤ R.frames) (hl : Wd + (maxL + 11) + rm.locals ≤ R.locals) (hEL : EW Z a0 EL) : BackSQ l R p e below (s.setVm V) args y len Wd as' h rm.cells rm.slots (fun v hh L => Fr Z.heap.size L ∧ Keep h hh wy ∧ Q v hh) Z EL V :=
  backOfSH (s := s) (Q := fun v hh L => Fr Z.heap.size L ∧ Keep h hh wy ∧ Q v hh) C W.2.2.2.1 wc wz hf hl hEL W.inv.2.1
theorem o_afterW (W : Wk p l e R (s.setVm V) m args below meth c own Z hb ws (IW s Z EL V) T h locs cells slots) {B : Pt} {v : Option Value} {kc ks : Nat} {Q : Option Value → Heap → List Loc → Prop} {wy : List Addr} (X' : Stand p l e R ((s.setVm V).setVm B.U.vm) m args below meth c B.U B.locs B.cells B.slots) (hS : (s.setVm V).Since B.U.vm B.U.heap.size) (hgr : T.heap.size ≤ B.U.heap.size) (hpost : ∃ L, Q v B.U.heap L ∧ B.locs = locs ++ L ∧ B.cells = cells + kc ∧ B.slots = slots + ks ∧ CHr Z EL V h B.U.vm B.U.heap)
    (hq : ∀ v hh L, Q v hh L → Fr Z.heap.size L ∧ Keep h hh wy) (hg : ∀ x ∈ wy, Z.heap.size ≤ x ∧ (x ∈ ws ∨ hb.size ≤ x)) :
    ∃ L, Q v B.U.heap L ∧ Keep h B.U.heap wy ∧ CHr Z EL V h B.U.vm B.U.heap ∧ Wk p l e R (s.setVm B.U.vm) m args below meth c own Z hb ws (IW s Z EL B.U.vm) B.U B.U.heap (locs ++ L) (cells + kc) (slots + ks) := by
  obtain ⟨X, hx, eT, hZ, ho, o, fr, kp, ⟨k0, i1, i2⟩, i3, i4⟩ := W
  obtain ⟨⟨U, lo, kc', ks'⟩, rfl⟩ : ∃ B', B' = B := ⟨_, rfl⟩
  obtain ⟨L', q, e1, e2, e3, hC⟩ := hpost
  have e1 : lo = locs ++ L' := e1
  have e2 : kc' = cells + kc := e2
  have e3 : ks' = slots + ks := e3
  subst e1 e2 e3
  obtain ⟨f, k⟩ := hq _ _ _ q
  obtain ⟨Y, hS2, hZ2, ho2⟩ := rebS (n1 := T.heap.size) i1 (by rw [eT]; exact i2) X' hS hgr hZ ho
  exact ⟨L', q, k, hC, Y, hx, rfl, hZ2, ho2, o.keep k (fun x hx => (hg x hx).1), fr.app f, kp.trans k (fun x hx => (hg x hx).2), ⟨_, hS2, Nat.le_refl _⟩, hC.1, i4.trans hC⟩
theorem o_specialW (W : Wk p l e R (s.setVm V) m args below meth c own Z hb ws (IW s Z EL V) T h locs cells slots) {index : Nat} {y : MethodName} {bytes : ByteArray} {maxL : Nat} (hy1 : y.name = "<init>") (w1 : (Cond.methodLink own index y).before a0 Z = true) (w2 : (Cond.instanceMethod y).before a0 Z = true) (w4 : (Cond.code y bytes maxL none).before a0 Z = true)
    (hy : y.cls ≠ "java/lang/invoke/MethodHandle" ∧ y.cls ≠ "java/lang/invoke/VarHandle") {Wd kc ks : Nat} {Q : Option Value → Heap → List Loc → Prop} {a : Addr} {argsL : List Value} (B : BackSQ l R p e below (s.setVm V) args y 3 Wd (.ref a :: argsL).toArray h kc ks Q Z EL V) (hml : L.size = c.maxLocals)
    (hlen : ∀ sig, parseMethodDescriptor y.desc = some sig → argsL.length = sig.parameters.length) {S0 : List Value} (hS : S0 = argsL.reverse ++ .ref a :: S) (hW : 2 * 0 + (S.map fun v => v.category).sum ≤ Wd) (pc' : Nat) (hd : decode c.code pc = .ok (.invokespecial index, 3)) (hp : pc + 3 = pc')
    (hc' : cells + kc = cells') (hs' : slots + ks = slots') (hc : cells' ≤ R.cells) (hs : slots' ≤ R.slots) {wy : List Addr} (hq : ∀ v hh L, Q v hh L → Fr Z.heap.size L ∧ Keep h hh wy) (hg : ∀ x ∈ wy, Z.heap.size ≤ x ∧ (x ∈ ws ∨ hb.size ≤ x))
    (K : ∀ v T' h' V' Lc, Wk p l e R (s.setVm V') m args below meth c own Z hb ws (IW s Z EL V') T' h' (locs ++ Lc) cells' slots' → Keep h h' wy → CHr Z EL V h V' h' → Q v h' Lc → Gl p.tables e below P T' m pc' L (v.toList ++ S)) : Gl p.tables e below P T m pc L S0 := by
  subst hp hc' hs' hS
  obtain ⟨v, vm₁, B', -, X', hS, hgr, hpost, st⟩ := W.1.specialBackS W.2.1 hy1 W.2.2.2.2.1 (mvT W.2.2.2.1 w1) (mvT W.2.2.2.1 w2) (mvT W.2.2.2.1 w4) hy B (g := mkF m pc L (argsL.reverse ++ .ref a :: S)) rfl hml (Steps.refl _) hlen rfl hW hd (fun _ _ => ⟨rfl, W.2.2.1, hc, hs⟩)
  obtain ⟨Lc, q, k, hC, W'⟩ := o_afterW W X' hS hgr hpost hq hg
  exact Gl.tr st (K v _ _ _ Lc W' k hC q)
theorem o_leaveWW {Q : Option Value → Heap → Prop} (W : Wk p l e R (s.setVm V) m args below meth c own Z hb ws (IW s Z EL V) T h locs cells slots) (hEL : EW Z a0 EL) (hlk : meth.locks = false) {v : Option Value} (hv : meth.sig.returnType = none → v = none) (hq : Q v h) (hc : cells ≤ R.cells) (hs : slots ≤ R.slots) (st : ∀ fs, (∀ (f : JFrame) (acts : List Action), f.method = m → f.locked = none → f.entered = [] → (doReturn e (T.setTop f) acts v).1 = T.setFrames fs) → Steps p.tables e below (T.setTop (mkF m pc L S)) (T.setFrames fs)) :
    Gl p.tables e below (PW s Z EL below hb ws R Q) T m pc L S := by
  obtain ⟨X, hx, eT, hZ, ho, o, fr, kp, ⟨k0, i1, i2⟩, i3, i4⟩ := W
  obtain ⟨fs, hr, hrun, hended, a1, a2, a3, a4⟩ := X.leaveW i1 (by rw [eT]; exact i2) (v := v) hv
  have eh : (T.setFrames fs).heap = h := eT
  have hA := CHv.at X hZ hEL i3
  exact ⟨_, _, st fs hr, hrun, hended, v, locs, rfl, ⟨fr, by rw [eh]; exact kp, by rw [eh]; exact hq⟩, by rw [eh]; exact i4.trans hA, a1, a2, a3, a4.mono hc hs⟩
theorem o_retNW (W : Wk p l e R (s.setVm V) m args below meth c own Z hb ws (IW s Z EL V) T h locs cells slots) (hEL : EW Z a0 EL) (hlk : meth.locks = false) {Q : Option Value → Heap → Prop} {z z' : Int32} {t : FieldType} (hret : meth.sig.returnType = some t) (ht : t = .boolean ∨ t = .byte ∨ t = .char ∨ t = .short) (hz : nar t z = z') (hd : decode c.code pc = .ok (.ireturn, 1)) (hc : cells ≤ R.cells) (hs : slots ≤ R.slots) (hq : Q (some (.int z')) h) : Gl p.tables e below (PW s Z EL below hb ws R Q) T m pc L (.int z :: S) := by
  subst hz
  exact o_leaveWW W hEL hlk (fun q => by rw [hret] at q; cases q) hq hc hs fun fs hr => retN W.1 W.2.1 hret ht hd hr
theorem o_ret0W (W : Wk p l e R (s.setVm V) m args below meth c own Z hb ws (IW s Z EL V) T h locs cells slots) (hEL : EW Z a0 EL) (hlk : meth.locks = false) {Q : Option Value → Heap → Prop} (hret : meth.sig.returnType = none) (hd : decode c.code pc = .ok (.return_, 1)) (hc : cells ≤ R.cells) (hs : slots ≤ R.slots) (hq : Q none h) : Gl p.tables e below (PW s Z EL below hb ws R Q) T m pc L [] :=
  o_leaveWW W hEL hlk (fun _ => rfl) hq hc hs fun fs hr => W.1.returnOut W.2.1 hret hd hr
end OwnWide
section OwnMore
variable {p : Program} {l : Launch} {e : Env} {R : Room} {s : State} {m : MethodId} {args : Array Value} {below : List Frame} {meth : Method} {c : Code} {T : State} {locs : List Loc} {cells slots cells' slots' : Nat} {Z : State} {a0 : Array Value} {h h' hb : Heap} {ws : List Addr} {own : String} {I : Heap → Prop} {P : State → Outcome → Prop} {pc pc' : Nat} {L L' : Array Slot} {S : List Value}
def MirW (Z : State) (C : String) (a : Addr) : Prop := ∃ (c : ClassId) (k : Class), Z.vm.findClass C = some c ∧ Z.vm.classes[c]? = some k ∧ k.mirror = some a
end OwnMore

abbrev HW (Z : State) (a0 : Array Value) : Prop := ∀ d ∈ tables_1, d.before a0 Z = true
theorem wa {Z : State} {a0 : Array Value} (hw : HW Z a0) (i : Nat) {c : Cond} (h : tables_1[i]? = some c) : c.before a0 Z = true := hw _ (List.mem_of_getElem? h)
theorem qf {Z : State} {h : Heap} {wy : List Addr} {Q : Option Value → Heap → Prop} : ∀ (v : Option Value) (hh : Heap) (L : List Loc), (Fr Z.heap.size L ∧ Keep h hh wy ∧ Q v hh) → Fr Z.heap.size L ∧ Keep h hh wy := fun _ _ _ q => ⟨q.1, q.2.1⟩
theorem tri {A : Heap → Prop} : ∀ h : Heap, A h → True := fun _ _ => trivial
theorem m0 {x : Addr} {ws : List Addr} {P : Prop} : x ∈ x :: ws ∨ P := Or.inl List.mem_cons_self
abbrev vi (x : Int32) : Slot := .val (.int x)
abbrev vr (a : Addr) : Slot := .val (.ref a)
abbrev un : Slot := .unset
section OwnC
variable {p : Program} {l : Launch} {e : Env} {R : Room} {s : State} {m : MethodId} {args : Array Value} {below : List Frame} {meth : Method} {c : Code} {T : State} {locs : List Loc} {cells slots : Nat} {Z : State} {a0 : Array Value} {h hb : Heap} {ws : List Addr} {own : String} {I : Heap → Prop} {P : State → Outcome → Prop} {pc : Nat} {L : Array Slot}
theorem o_staticC (W : Wk p l e R s m args below meth c own Z hb ws I T h locs cells slots) {index : Nat} {y : MethodName} {bytes : ByteArray} {maxL : Nat} {ret : Option FieldType} (w1 : (Cond.methodLink own index y).before a0 Z = true) (w2 : (Cond.static y).before a0 Z = true) (w3 : (Cond.initialized y.cls).before a0 Z = true) (w4 : (Cond.code y bytes maxL ret).before a0 Z = true)
    (hy : y.cls ≠ "java/lang/invoke/MethodHandle" ∧ y.cls ≠ "java/lang/invoke/VarHandle") {rm : Room} {wy : List Addr} {Q : Option Value → Heap → Prop} {argsL : List Value} (Ct : CtrN l Z y bytes maxL ret [] rm argsL.toArray h wy Q) (Wd : Nat) (cells' slots' : Nat) (hz : rm.frames + 1 ≤ R.frames ∧ Wd + (maxL + 11) + rm.locals ≤ R.locals ∧ cells' ≤ R.cells ∧ slots' ≤ R.slots) (hml : L.size = c.maxLocals)
    (hlen : ∀ sig, parseMethodDescriptor y.desc = some sig → argsL.length = sig.parameters.length) {S0 : List Value} (S : List Value) (hS : S0 = argsL.reverse ++ S) (hW : 2 * 0 + (S.map fun v => v.category).sum = Wd) (pc' : Nat) (hd : decode c.code pc = .ok (.invokestatic index, 3)) (hp : pc + 3 = pc')
    (hc' : cells + rm.cells = cells') (hs' : slots + rm.slots = slots') (hg : ∀ x ∈ wy, Z.heap.size ≤ x ∧ (x ∈ ws ∨ hb.size ≤ x)) (hI : ∀ h', Keep h h' wy → I h')
    (K : ∀ v T' h' Lc, Wk p l e R s m args below meth c own Z hb ws I T' h' (locs ++ Lc) cells' slots' → Keep h h' wy → (Fr Z.heap.size Lc ∧ Keep h h' wy ∧ Q v h') → Gl p.tables e below P T' m pc' L (v.toList ++ S)) : Gl p.tables e below P T m pc L S0 := o_static W w1 w2 w3 w4 hy (CtrN.back (Wd := Wd) W Ct w4 w3 hz.1 hz.2.1) hml hlen hS (Nat.le_of_eq hW) pc' hd hp hc' hs' hz.2.2.1 hz.2.2.2 qf hg hI K
theorem o_specialC (W : Wk p l e R s m args below meth c own Z hb ws I T h locs cells slots) {index : Nat} {y : MethodName} {bytes : ByteArray} {maxL : Nat} (hy1 : y.name = "<init>") (w1 : (Cond.methodLink own index y).before a0 Z = true) (w2 : (Cond.instanceMethod y).before a0 Z = true) (w4 : (Cond.code y bytes maxL none).before a0 Z = true)
    (hy : y.cls ≠ "java/lang/invoke/MethodHandle" ∧ y.cls ≠ "java/lang/invoke/VarHandle") {rm : Room} {wy : List Addr} {Q : Option Value → Heap → Prop} {a : Addr} {argsL : List Value} (wz : (Cond.initialized y.cls).before a0 Z = true) (Ct : CtrN l Z y bytes maxL none [] rm (.ref a :: argsL).toArray h wy Q) (Wd : Nat) (cells' slots' : Nat) (hz : rm.frames + 1 ≤ R.frames ∧ Wd + (maxL + 11) + rm.locals ≤ R.locals ∧ cells' ≤ R.cells ∧ slots' ≤ R.slots) (hml : L.size = c.maxLocals)
    (hlen : ∀ sig, parseMethodDescriptor y.desc = some sig → argsL.length = sig.parameters.length) {S0 : List Value} (S : List Value) (hS : S0 = argsL.reverse ++ .ref a :: S) (hW : 2 * 0 + (S.map fun v => v.category).sum = Wd) (pc' : Nat) (hd : decode c.code pc = .ok (.invokespecial index, 3)) (hp : pc + 3 = pc')
    (hc' : cells + rm.cells = cells') (hs' : slots + rm.slots = slots') (hg : ∀ x ∈ wy, Z.heap.size ≤ x ∧ (x ∈ ws ∨ hb.size ≤ x)) (hI : ∀ h', Keep h h' wy → I h')
    (K : ∀ v T' h' Lc, Wk p l e R s m args below meth c own Z hb ws I T' h' (locs ++ Lc) cells' slots' → Keep h h' wy → (Fr Z.heap.size Lc ∧ Keep h h' wy ∧ Q v h') → Gl p.tables e below P T' m pc' L (v.toList ++ S)) : Gl p.tables e below P T m pc L S0 := o_special W hy1 w1 w2 w4 hy (CtrN.back (Wd := Wd) W Ct w4 wz hz.1 hz.2.1) hml hlen hS (Nat.le_of_eq hW) pc' hd hp hc' hs' hz.2.2.1 hz.2.2.2 qf hg hI K
theorem o_virtualC (W : Wk p l e R s m args below meth c own Z hb ws I T h locs cells slots) {index : Nat} {C : String} {y z : MethodName} (w1 : (Cond.methodLink own index y).before a0 Z = true) (w2 : (Cond.declares y).before a0 Z = true) (hnf : NotFace s y) (w3 : (Cond.selects C y z).before a0 Z = true) (w4 : (Cond.instanceMethod z).before a0 Z = true)
    (hy : y.cls ≠ "java/lang/invoke/MethodHandle" ∧ y.cls ≠ "java/lang/invoke/VarHandle") {rm : Room} {wy : List Addr} {Q : Option Value → Heap → Prop} {a : Addr} (E : Exa Z h a C) {argsL : List Value} {bytes : ByteArray} {maxL : Nat} {ret : Option FieldType} (wc : (Cond.code z bytes maxL ret).before a0 Z = true) (wz : (Cond.initialized z.cls).before a0 Z = true) (Ct : CtrN l Z z bytes maxL ret [] rm (.ref a :: argsL).toArray h wy Q) (Wd : Nat) (cells' slots' : Nat) (hz : rm.frames + 1 ≤ R.frames ∧ Wd + (maxL + 11) + rm.locals ≤ R.locals ∧ cells' ≤ R.cells ∧ slots' ≤ R.slots) (hml : L.size = c.maxLocals)
    (hlen : ∀ sig, parseMethodDescriptor y.desc = some sig → argsL.length = sig.parameters.length) {S0 : List Value} (S : List Value) (hS : S0 = argsL.reverse ++ .ref a :: S) (hW : 2 * 0 + (S.map fun v => v.category).sum = Wd) (pc' : Nat) (hd : decode c.code pc = .ok (.invokevirtual index, 3)) (hp : pc + 3 = pc')
    (hc' : cells + rm.cells = cells') (hs' : slots + rm.slots = slots') (hg : ∀ x ∈ wy, Z.heap.size ≤ x ∧ (x ∈ ws ∨ hb.size ≤ x)) (hI : ∀ h', Keep h h' wy → I h')
    (K : ∀ v T' h' Lc, Wk p l e R s m args below meth c own Z hb ws I T' h' (locs ++ Lc) cells' slots' → Keep h h' wy → (Fr Z.heap.size Lc ∧ Keep h h' wy ∧ Q v h') → Gl p.tables e below P T' m pc' L (v.toList ++ S)) : Gl p.tables e below P T m pc L S0 := o_virtual W w1 w2 hnf w3 w4 hy E (CtrN.back (Wd := Wd) W Ct wc wz hz.1 hz.2.1) hml hlen hS (Nat.le_of_eq hW) pc' hd hp hc' hs' hz.2.2.1 hz.2.2.2 qf hg hI K
end OwnC
abbrev iZ : Value := .int 0
abbrev s0 : String := "java/lang/String"
abbrev s1 : String := "java/lang/StringUTF16"
abbrev s2 : String := "jdk/internal/util/Preconditions"
abbrev s3 : String := "SIOOBE_FORMATTER"
abbrev s4 : String := "Ljava/util/function/BiFunction;"
abbrev s5 : String := "$assertionsDisabled"
abbrev s6 : String := "HI_BYTE_SHIFT"
abbrev s7 : String := "LO_BYTE_SHIFT"
abbrev s8 : String := "COMPACT_STRINGS"
abbrev mn0 : MethodName := ⟨"java/lang/String", "isEmpty", "()Z"⟩
abbrev mn1 : MethodName := ⟨"java/lang/String", "length", "()I"⟩
abbrev mn2 : MethodName := ⟨"java/lang/String", "charAt", "(I)C"⟩
abbrev mn3 : MethodName := ⟨"com/example/revision/revision/core/RecordKeyIsValidNamePinLaw", "ok", "(C)Z"⟩
abbrev mn4 : MethodName := ⟨"com/example/revision/revision/core/RecordKeyIsValidNamePinLaw", "pick", "(IZ)C"⟩
abbrev mn5 : MethodName := ⟨"java/lang/String", "<init>", "([CIILjava/lang/Void;)V"⟩
abbrev mn6 : MethodName := ⟨"java/lang/String", "<init>", "([C)V"⟩
abbrev mn7 : MethodName := ⟨"com/example/revision/revision/core/RecordKey", "isValidName", "(Ljava/lang/String;)Z"⟩
abbrev mn8 : MethodName := ⟨"java/lang/StringUTF16", "compress", "([CI[BII)I"⟩
abbrev mn9 : MethodName := ⟨"java/lang/StringUTF16", "compress", "([CII)[B"⟩
abbrev mn10 : MethodName := ⟨"java/lang/StringUTF16", "coderFromArrayLen", "([BI)B"⟩
abbrev mn11 : MethodName := ⟨"java/lang/String", "coder", "()B"⟩
abbrev mn12 : MethodName := ⟨"java/lang/String", "isLatin1", "()Z"⟩
abbrev mn13 : MethodName := ⟨"jdk/internal/util/Preconditions", "checkIndex", "(IILjava/util/function/BiFunction;)I"⟩
abbrev mn14 : MethodName := ⟨"java/lang/String", "checkIndex", "(II)V"⟩
abbrev mn15 : MethodName := ⟨"java/lang/StringLatin1", "charAt", "([BI)C"⟩
abbrev mn16 : MethodName := ⟨"java/lang/StringUTF16", "newBytesLength", "(I)I"⟩
abbrev mn17 : MethodName := ⟨"java/lang/StringUTF16", "newBytesFor", "(I)[B"⟩
abbrev mn18 : MethodName := ⟨"java/lang/StringUTF16", "putChar", "([BII)V"⟩
abbrev mn19 : MethodName := ⟨"java/lang/StringUTF16", "toBytes", "([CII)[B"⟩
abbrev mn20 : MethodName := ⟨"java/lang/StringUTF16", "getChar", "([BI)C"⟩
abbrev mn21 : MethodName := ⟨"java/lang/StringUTF16", "length", "([B)I"⟩
abbrev mn22 : MethodName := ⟨"java/lang/StringUTF16", "checkIndex", "(I[B)V"⟩
abbrev mn23 : MethodName := ⟨"java/lang/StringUTF16", "charAt", "([BI)C"⟩
abbrev dc (b : ByteArray) (pc : Nat) (i : Instr) (n : Nat) : Prop := decode b pc = .ok (i, n)
abbrev c0_ : ByteArray := method_2_code
abbrev c1_ : ByteArray := jdk_42_method_3_code
abbrev c2_ : ByteArray := jdk_42_method_149_code
abbrev c3_ : ByteArray := prog_6_method_2_code
abbrev c4_ : ByteArray := jdk_42_method_55_code
abbrev c5_ : ByteArray := jdk_42_method_54_code
abbrev c6_ : ByteArray := jdk_42_method_152_code
abbrev c7_ : ByteArray := jdk_42_method_56_code
abbrev c8_ : ByteArray := jdk_42_method_154_code
abbrev c9_ : ByteArray := jdk_43_method_2_code
abbrev c10_ : ByteArray := jdk_42_method_155_code
abbrev c11_ : ByteArray := jdk_41_method_11_code
abbrev c12_ : ByteArray := jdk_52_method_16_code
abbrev c13_ : ByteArray := jdk_52_method_21_code
abbrev c14_ : ByteArray := jdk_52_method_15_code
abbrev c15_ : ByteArray := method_3_code
abbrev c16_ : ByteArray := jdk_52_method_14_code
abbrev c17_ : ByteArray := jdk_52_method_2_code
abbrev c18_ : ByteArray := jdk_52_method_3_code
abbrev c19_ : ByteArray := jdk_52_method_4_code
abbrev c20_ : ByteArray := jdk_52_method_5_code
abbrev c21_ : ByteArray := jdk_52_method_83_code
abbrev c22_ : ByteArray := jdk_52_method_91_code
abbrev c23_ : ByteArray := jdk_52_method_6_code
set_option maxRecDepth 65536
set_option maxHeartbeats 40000000

def own_b (x : Int32) : Prop := ¬ x < 0 ∧ ¬ (255 : Int32) < x
def own_01 (x : Int32) : Prop := x = 0 ∨ x = 1
def own_ok (cs : List Int32) : Prop := (∀ c ∈ cs, own_b c) ∧ cs.length ≤ 4000
def own_eq (cs ds : List Int32) : Int32 := if cs = ds then 1 else 0
theorem own_eq01 (cs ds : List Int32) : own_01 (own_eq cs ds) := by unfold own_eq own_01; split <;> simp
theorem own_eq_symm (cs ds : List Int32) : own_eq cs ds = own_eq ds cs := by
  unfold own_eq
  by_cases h : cs = ds
  · rw [if_pos h, if_pos h.symm]
  · rw [if_neg h, if_neg (Ne.symm h)]
theorem own_lcs (x : Int64) : lcmpW x x = 0 := by simp [lcmpW]
theorem own_eqne (cs : List Int32) : ¬ own_eq cs cs = 0 := by unfold own_eq; rw [if_pos rfl]; decide
theorem own_ite0 {P : Prop} [Decidable P] (h : ¬ P) : (0 : Int32) = if P then 1 else 0 := (if_neg h).symm
theorem own_ite1 {P : Prop} [Decidable P] (h : P) : (1 : Int32) = if P then 1 else 0 := (if_pos h).symm
theorem own_b255 (x : Int32) : own_b (x &&& 255) := by
  have h := c_andS x 255
  have h1 : (x &&& 255).toBitVec.toNat ≤ 255 := by
    rw [Int32.toBitVec_and, BitVec.toNat_and]; exact Nat.and_le_right
  have h0 := h.2.2 (by decide)
  have e : (x &&& 255).toInt = (x &&& 255).toBitVec.toNat := by
    show (x &&& 255).toBitVec.toInt = _
    rw [BitVec.toInt_eq_toNat_cond, if_pos (by omega)]
  refine ⟨?_, ?_⟩
  · rw [Int32.lt_iff_toInt_lt]; show ¬ _ < (0 : Int); omega
  · rw [Int32.lt_iff_toInt_lt]; show ¬ (255 : Int) < _; omega
theorem own_bnat {x : Int32} (h : own_b x) : x.toBitVec.toNat ≤ 255 ∧ x.toInt = x.toBitVec.toNat := by
  obtain ⟨h0, h1⟩ := h
  rw [Int32.lt_iff_toInt_lt] at h0 h1
  have e0 : (0 : Int32).toInt = 0 := rfl
  have e1 : (255 : Int32).toInt = 255 := rfl
  have := x.toBitVec.isLt
  have e : x.toInt = x.toBitVec.toInt := rfl
  have e2 : x.toBitVec.toInt = if 2 * x.toBitVec.toNat < 2 ^ 32 then (x.toBitVec.toNat : Int) else (x.toBitVec.toNat : Int) - ((2 ^ 32 : Nat) : Int) := BitVec.toInt_eq_toNat_cond x.toBitVec
  split at e2 <;> omega
theorem own_i2c {x : Int32} (h : own_b x) : x.toUInt32.toUInt16.toUInt32.toInt32 = x := by
  obtain ⟨h1, -⟩ := own_bnat h
  apply Int32.toBitVec_inj.mp
  apply BitVec.eq_of_toNat_eq
  show (BitVec.setWidth 32 (BitVec.setWidth 16 x.toBitVec)).toNat = _
  simp only [BitVec.toNat_setWidth]
  omega
theorem own_fitC {x : Int32} (h : own_b x) : fits .char (.int x) = true := by
  have q := fits_nar_char x
  have e : nar .char x = x := own_i2c h
  rw [e] at q; exact q
theorem own_nar01 {x : Int32} (h : own_01 x) : x &&& 1 = x := by rcases h with rfl | rfl <;> decide
theorem own_fit01 {x : Int32} (h : own_01 x) : fits .boolean (.int x) = true := by rcases h with rfl | rfl <;> decide
theorem own_up {cs : List Int32} (h : own_ok cs) : ∀ c ∈ cs, ¬ c < 0 ∧ ¬ (65535 : Int32) < c := fun c hc => by
  obtain ⟨h0, h1⟩ := h.1 c hc
  refine ⟨h0, fun q => h1 ?_⟩
  rw [Int32.lt_iff_toInt_lt] at q ⊢
  have e0 : (65535 : Int32).toInt = 65535 := rfl
  have e1 : (255 : Int32).toInt = 255 := rfl
  omega
theorem own_eqv {v : Option Value} {cs ds : List Int32} (h : (v = some (.int 1) ∧ cs = ds) ∨ (v = some (.int 0) ∧ ¬ cs = ds)) : v = some (.int (own_eq cs ds)) := by
  unfold own_eq
  rcases h with ⟨rfl, h⟩ | ⟨rfl, h⟩
  · rw [if_pos h]
  · rw [if_neg h]
theorem own_b8 (x : Int32) : x.toInt8.toInt32.toInt8.toInt32 = x.toInt8.toInt32 := by simp
theorem own_fit8 (x : Int32) : fits .byte (.int x.toInt8.toInt32) = true := fits_nar_byte x
theorem own_shr8 {x : Int32} (h : own_b x) : (x.toUInt32 >>> ((8 : Int32) &&& 31).toUInt32).toInt32 = 0 := by
  obtain ⟨h1, -⟩ := own_bnat h
  apply Int32.toBitVec_inj.mp
  apply BitVec.eq_of_toNat_eq
  have e : ((8 : Int32) &&& 31).toUInt32 = 8 := by decide
  rw [e]
  show (x.toUInt32 >>> 8).toBitVec.toNat = 0
  rw [UInt32.toBitVec_shiftRight]
  show (x.toBitVec >>> (8 : UInt32).toBitVec.umod 32).toNat = 0
  rw [BitVec.ushiftRight_eq', BitVec.toNat_ushiftRight, show ((8 : UInt32).toBitVec.umod 32).toNat = 8 by decide, Nat.shiftRight_eq_div_pow]
  omega
theorem own_eqS {args : Array Value} {Z : State} {t : Term} {x : Int32} (h : t.eval args Z none [] Z = some (.int x)) : (Jvm.Cond.eq t (.int 0)).value args Z none Z [] = some (decide (x = 0)) := by
  simp [Cond.value, h, Term.eval]
theorem own_same {n : Nat} {L : List Loc} {h hh : Heap} (q : L = [] ∧ hh = h) : Fr n L ∧ Keep h hh [] := by
  obtain ⟨rfl, rfl⟩ := q
  exact ⟨Fr.nil _, Keep.refl _ _⟩
theorem own_wS {Z : State} {a0 : Array Value} (hw : ∀ d ∈ tables_1, d.before a0 Z = true) : ∀ a ∈ Bundle.stringAtoms, a.before a0 Z = true := fun d hd => hw d ((by decide +kernel : ∀ w ∈ Bundle.stringAtoms, w ∈ tables_1) d hd)
theorem own_EL {Z : State} {a0 : Array Value} (hw : ∀ d ∈ tables_1, d.before a0 Z = true) : EW Z a0 consts_1 := (EW.cons (hw _ (List.mem_of_getElem? (i := 36) rfl)) (by decide +kernel) (EW.cons (hw _ (List.mem_of_getElem? (i := 37) rfl)) (by decide +kernel) (EW.cons (hw _ (List.mem_of_getElem? (i := 19) rfl)) (by decide +kernel) EW.nil)))
abbrev bH (x : Int32) : Int32 := ((x >>> ((0 : Int32) &&& 31)).toInt8.toInt32)
abbrev bL (x : Int32) : Int32 := ((x >>> ((8 : Int32) &&& 31)).toInt8.toInt32)
abbrev bB (x : Int32) : Int32 := (x.toInt8.toInt32)

def own_4 (n : Int32) : Prop := n = 0 ∨ n = 1 ∨ n = 2 ∨ n = 3
theorem own_and3 (x : Int32) : own_4 (x &&& 3) := by
  have h1 : (x &&& 3).toBitVec.toNat ≤ 3 := by
    rw [Int32.toBitVec_and, BitVec.toNat_and]; exact Nat.and_le_right
  have key : ∀ b : BitVec 32, b.toNat ≤ 3 → b = 0#32 ∨ b = 1#32 ∨ b = 2#32 ∨ b = 3#32 := fun b hb => by
    rcases Nat.lt_or_ge b.toNat 1 with q | q
    · exact Or.inl (BitVec.eq_of_toNat_eq (by simp; omega))
    · rcases Nat.lt_or_ge b.toNat 2 with q | q
      · exact Or.inr (Or.inl (BitVec.eq_of_toNat_eq (by simp; omega)))
      · rcases Nat.lt_or_ge b.toNat 3 with q | q
        · exact Or.inr (Or.inr (Or.inl (BitVec.eq_of_toNat_eq (by simp; omega))))
        · exact Or.inr (Or.inr (Or.inr (BitVec.eq_of_toNat_eq (by simp; omega))))
  rcases key _ h1 with q | q | q | q
  · exact Or.inl (Int32.toBitVec_inj.mp q)
  · exact Or.inr (Or.inl (Int32.toBitVec_inj.mp q))
  · exact Or.inr (Or.inr (Or.inl (Int32.toBitVec_inj.mp q)))
  · exact Or.inr (Or.inr (Or.inr (Int32.toBitVec_inj.mp q)))
theorem own_m8 (v : BitVec 32) : ((v.setWidth 8).signExtend 32 &&& 255#32) = (v &&& 255#32) := by
  apply BitVec.eq_of_getLsbD_eq
  intro i hi
  have h255 : (255#32).getLsbD i = decide (i < 8) := by
    have : (255#32).getLsbD i = (decide (i < 32) && Nat.testBit 255 i) := by simp [BitVec.getLsbD_ofNat]
    rw [this, show (255 : Nat) = 2 ^ 8 - 1 from rfl, Nat.testBit_two_pow_sub_one]
    simp [hi]
  simp only [BitVec.getLsbD_and, h255]
  by_cases h8 : i < 8
  · rw [BitVec.getLsbD_signExtend]
    simp only [h8, hi, decide_true, Bool.true_and, Bool.and_true, if_true, BitVec.getLsbD_setWidth]
  · simp [h8]
theorem own_joinB (b : BitVec 32) (hb : b.toNat ≤ 65535) : (((((((b.sshiftRight 0).setWidth 8).signExtend 32 &&& 255#32) <<< 0) ||| ((((b.sshiftRight 8).setWidth 8).signExtend 32 &&& 255#32) <<< 8)).setWidth 16).setWidth 32) = b := by
  rw [own_m8, own_m8]
  have hm : b.msb = false := by rw [BitVec.msb_eq_decide]; simp; omega
  have s0 : b.sshiftRight 0 = b := by rw [BitVec.sshiftRight_eq_of_msb_false hm]; simp
  have s8 : b.sshiftRight 8 = b >>> 8 := BitVec.sshiftRight_eq_of_msb_false hm
  rw [s0, s8]
  apply BitVec.eq_of_getLsbD_eq
  intro i hi
  have h255 : ∀ j, (255#32).getLsbD j = decide (j < 8) := fun j => by
    have : (255#32).getLsbD j = (decide (j < 32) && Nat.testBit 255 j) := by simp [BitVec.getLsbD_ofNat]
    rw [this, show (255 : Nat) = 2 ^ 8 - 1 from rfl, Nat.testBit_two_pow_sub_one]
    by_cases h : j < 8
    · simp [h]; omega
    · simp [h]
  have hbig : ¬ i < 16 → b.getLsbD i = false := fun h => by
    rw [BitVec.getLsbD]; exact Nat.testBit_lt_two_pow (Nat.lt_of_lt_of_le (Nat.lt_succ_of_le hb) (Nat.pow_le_pow_right (n := 2) (by decide) (Nat.le_of_not_lt h)))
  simp only [BitVec.getLsbD_setWidth, BitVec.getLsbD_or, BitVec.getLsbD_shiftLeft, BitVec.getLsbD_and, h255, BitVec.getLsbD_ushiftRight, hi, decide_true, Bool.true_and]
  by_cases h16 : i < 16
  · by_cases h8 : i < 8
    · simp [h16, h8]
    · have e : 8 + (i - 8) = i := by omega
      have e2 : i - 8 < 8 := by omega
      simp [h16, h8, e, e2]
  · simp [h16, hbig h16]
def own_c (x : Int32) : Prop := ¬ x < 0 ∧ ¬ (65535 : Int32) < x
theorem own_cnat {x : Int32} (h : own_c x) : x.toBitVec.toNat ≤ 65535 ∧ x.toInt = x.toBitVec.toNat := by
  obtain ⟨h0, h1⟩ := h
  rw [Int32.lt_iff_toInt_lt] at h0 h1
  have e0 : (0 : Int32).toInt = 0 := rfl
  have e1 : (65535 : Int32).toInt = 65535 := rfl
  have := x.toBitVec.isLt
  have e : x.toInt = x.toBitVec.toInt := rfl
  have e2 : x.toBitVec.toInt = if 2 * x.toBitVec.toNat < 2 ^ 32 then (x.toBitVec.toNat : Int) else (x.toBitVec.toNat : Int) - ((2 ^ 32 : Nat) : Int) := BitVec.toInt_eq_toNat_cond x.toBitVec
  split at e2 <;> omega
theorem own_s8 (v : BitVec 32) : BitVec.signExtend 8 v = BitVec.setWidth 8 v := by
  apply BitVec.eq_of_getLsbD_eq
  intro i hi
  rw [BitVec.getLsbD_signExtend]
  have h32 : i < 32 := by omega
  simp only [hi, h32, decide_true, Bool.true_and, if_true, BitVec.getLsbD_setWidth]
theorem own_i8 (c : Int32) : (c.toInt8.toInt32).toBitVec = (c.toBitVec.setWidth 8).signExtend 32 := by rw [Int8.toBitVec_toInt32, Int32.toBitVec_toInt8, own_s8]
theorem own_join {c : Int32} (h : own_c c) : ((((((c >>> ((0 : Int32) &&& 31)).toInt8.toInt32) &&& 255) <<< ((0 : Int32) &&& 31)) ||| ((((c >>> ((8 : Int32) &&& 31)).toInt8.toInt32) &&& 255) <<< ((8 : Int32) &&& 31))).toUInt32.toUInt16.toUInt32.toInt32) = c := by
  apply Int32.toBitVec_inj.mp
  have e1 : ∀ x : Int32, (x.toUInt32.toUInt16.toUInt32.toInt32).toBitVec = (x.toBitVec.setWidth 16).setWidth 32 := fun _ => rfl
  have e2 : ∀ x : Int32, (x <<< ((8 : Int32) &&& 31)).toBitVec = x.toBitVec <<< 8 := fun _ => rfl
  have e3 : ∀ x : Int32, (x <<< ((0 : Int32) &&& 31)).toBitVec = x.toBitVec <<< 0 := fun _ => rfl
  have e4 : ∀ x : Int32, (x >>> ((8 : Int32) &&& 31)).toBitVec = x.toBitVec.sshiftRight 8 := fun _ => rfl
  have e5 : ∀ x : Int32, (x >>> ((0 : Int32) &&& 31)).toBitVec = x.toBitVec.sshiftRight 0 := fun _ => rfl
  rw [e1, Int32.toBitVec_or, e2, e3, Int32.toBitVec_and, Int32.toBitVec_and, own_i8, own_i8, e4, e5]
  exact own_joinB _ (own_cnat h).1
theorem own_i2cc {x : Int32} (h : own_c x) : x.toUInt32.toUInt16.toUInt32.toInt32 = x := by
  apply Int32.toBitVec_inj.mp
  apply BitVec.eq_of_toNat_eq
  have e1 : (x.toUInt32.toUInt16.toUInt32.toInt32).toBitVec = (x.toBitVec.setWidth 16).setWidth 32 := rfl
  have := (own_cnat h).1
  rw [e1, BitVec.toNat_setWidth, BitVec.toNat_setWidth]
  omega
theorem own_cc (x : Int32) : own_c (x.toUInt32.toUInt16.toUInt32.toInt32) := by
  have e1 : (x.toUInt32.toUInt16.toUInt32.toInt32).toBitVec = (x.toBitVec.setWidth 16).setWidth 32 := rfl
  have h : (x.toUInt32.toUInt16.toUInt32.toInt32).toBitVec.toNat ≤ 65535 := by
    rw [e1, BitVec.toNat_setWidth, BitVec.toNat_setWidth]; omega
  have e : (x.toUInt32.toUInt16.toUInt32.toInt32).toInt = (x.toUInt32.toUInt16.toUInt32.toInt32).toBitVec.toNat := by
    show (x.toUInt32.toUInt16.toUInt32.toInt32).toBitVec.toInt = _
    rw [BitVec.toInt_eq_toNat_cond, if_pos (by omega)]
  refine ⟨?_, ?_⟩
  · rw [Int32.lt_iff_toInt_lt]; show ¬ _ < (0 : Int); omega
  · rw [Int32.lt_iff_toInt_lt]; show ¬ (65535 : Int) < _; omega
theorem own_fitCc {x : Int32} (h : own_c x) : fits .char (.int x) = true := by
  have q := fits_nar_char x
  have e : nar .char x = x := own_i2cc h
  rw [e] at q; exact q
theorem own_cb {x : Int32} (h : own_c x) (q : ¬ (255 : Int32) < x) : own_b x := ⟨h.1, q⟩
theorem own_lo8 {c : Int32} (h : own_b c) : ((c.toInt8.toInt32) &&& 255) = c := by
  apply Int32.toBitVec_inj.mp
  rw [Int32.toBitVec_and, own_i8]
  show ((c.toBitVec.setWidth 8).signExtend 32 &&& 255#32) = c.toBitVec
  rw [own_m8]
  apply BitVec.eq_of_toNat_eq
  have h1 := (own_bnat h).1
  rw [BitVec.toNat_and]
  show c.toBitVec.toNat &&& (2 ^ 8 - 1) = _
  rw [Nat.and_two_pow_sub_one_eq_mod]
  omega
def All2 (P : Int32 → Int32 → Prop) : List (Int32 × Int32) → Prop
  | [] => True
  | p :: ps => P p.1 p.2 ∧ All2 P ps
theorem al0 {P : Int32 → Int32 → Prop} : All2 P [] := trivial
theorem al1 {P : Int32 → Int32 → Prop} {a b : Int32} {ps : List (Int32 × Int32)} (h : P a b) (t : All2 P ps) : All2 P ((a, b) :: ps) := ⟨h, t⟩
theorem al_h {P : Int32 → Int32 → Prop} {a b : Int32} {ps : List (Int32 × Int32)} (h : All2 P ((a, b) :: ps)) : P a b := h.1
theorem al_t {P : Int32 → Int32 → Prop} {a b : Int32} {ps : List (Int32 × Int32)} (h : All2 P ((a, b) :: ps)) : All2 P ps := h.2
theorem own_Kt {h0 h h' : Heap} (K : Keep h0 h []) (K' : Keep h h' []) : Keep h0 h' [] := K.trans K' (fun _ q => nomatch q)
abbrev Sf0 (l : Launch) (Z : State) (h : Heap) (a : Addr) (x : Int32) : Prop := CtrN l Z mn0 jdk_42_method_55_code 1 (some .boolean) [] (⟨0, 0, 0, 0⟩ : Room) #[(.ref a)] h [] (fun v h => v = some (.int x))
abbrev Sf1 (l : Launch) (Z : State) (h : Heap) (a : Addr) (x : Int32) : Prop := CtrN l Z mn1 jdk_42_method_54_code 1 (some .int) [] (⟨1, 0, 0, 14⟩ : Room) #[(.ref a)] h [] (fun v h => v = some (.int x))
abbrev Sa (l : Launch) (Z : State) (h : Heap) (a : Addr) (i x : Int32) : Prop := CtrN l Z mn2 jdk_42_method_56_code 2 (some .char) [] (⟨5, 0, 0, 70⟩ : Room) #[(.ref a), (.int i)] h [] (fun v h => v = some (.int x))
def Sv (l : Launch) (Z : State) (h : Heap) (a : Addr) (n : Int32) (q : List (Int32 × Int32)) : Prop := ∀ h2, Old Z Z.heap.size h2 → Keep h h2 [] → Sf0 l Z h2 a 0 ∧ Sf1 l Z h2 a n ∧ All2 (Sa l Z h2 a) q
theorem Sv.keep {l : Launch} {Z : State} {h h' : Heap} {a : Addr} {n : Int32} {q : List (Int32 × Int32)} (S : Sv l Z h a n q) (K : Keep h h' []) : Sv l Z h' a n q := fun h2 O K2 => S h2 O (own_Kt K K2)
theorem Sv.ext {l : Launch} {Z : State} {h h' : Heap} {a : Addr} {n : Int32} {q : List (Int32 × Int32)} (S : Sv l Z h a n q) (E : Ext h h') : Sv l Z h' a n q := S.keep ((Keep.refl _ _).ext E)

theorem own_eqR {Z : State} {args : Array Value} {a b : Term} {g : Addr} (h : (Jvm.Cond.eq a b).value args Z none Z [] = some true) (hb : b.eval args Z none [] Z = some (.ref g)) : a.eval args Z none [] Z = some (.ref g) := by
  obtain ⟨x, y, e1, e2, k1, k2⟩ := cmp_v (Or.inl h)
  cases hb.symm.trans e2
  have hx : x.isRef = true := k2.2
  have := gotT (eq_R e1 hb hx rfl) h
  rw [e1, this]
theorem own_len {Z : State} {args : Array Value} {t : Term} {a : Addr} {cl : Cell} {ty : FieldType} {n : Int32} (ev : t.eval args Z none [] Z = some (.ref a)) (A : Arr Z Z.heap a cl ty) (h : (Jvm.Cond.eq (.length t) (.int n)).value args Z none Z [] = some true) : cl.slots.size < 2 ^ 31 ∧ cl.slots.size.toInt32 = n := by
  have q := eqv_i (Term.int_eval n) h
  have f := A.fin (Vm.Alike.refl _)
  by_cases hs : cl.slots.size < 2 ^ 31
  · rw [len_f ev f hs] at q
    exact ⟨hs, by simpa using q⟩
  · simp [Term.eval, ev, f, hs] at q
theorem own_elI {Z : State} {args : Array Value} {t : Term} {a : Addr} {cl : Cell} {ty : FieldType} {i v : Int32} {k : Nat} (ev : t.eval args Z none [] Z = some (.ref a)) (A : Arr Z Z.heap a cl ty) (h : (Jvm.Cond.eq (.elem t (.int i)) (.int v)).value args Z none Z [] = some true) (hk : i.toNatClampNeg = k) : cl.slots[k]? = some (.int v) := by
  subst hk
  exact (elem_in (eqv_i (Term.int_eval v) h) ev (Term.int_eval i) A.1).2
theorem own_elJ {Z : State} {args : Array Value} {t : Term} {a : Addr} {cl : Cell} {ty : FieldType} {i : Int32} {v : Int64} {k : Nat} (ev : t.eval args Z none [] Z = some (.ref a)) (A : Arr Z Z.heap a cl ty) (h : (Jvm.Cond.eq (.elem t (.int i)) (.long v)).value args Z none Z [] = some true) (hk : i.toNatClampNeg = k) : cl.slots[k]? = some (.long v) := by
  subst hk
  exact (elem_in (eqv_l (long_at v) h) ev (Term.int_eval i) A.1).2
theorem own_elR {Z : State} {args : Array Value} {t : Term} {a : Addr} {cl : Cell} {ty : FieldType} {i : Int32} {v : Value} {k : Nat} (ev : t.eval args Z none [] Z = some (.ref a)) (A : Arr Z Z.heap a cl ty) (h : (Term.elem t (.int i)).eval args Z none [] Z = some v) (hk : i.toNatClampNeg = k) : cl.slots[k]? = some v := by
  subst hk
  exact (elem_in h ev (Term.int_eval i) A.1).2

def own_ok4 (c : Int32) : Int32 := if c = 46 then 1 else if c = 95 then 1 else if c = 45 then 1 else 0
def own_ok3 (c : Int32) : Int32 := if c < 48 then own_ok4 c else if (57 : Int32) < c then own_ok4 c else 1
def own_ok2 (c : Int32) : Int32 := if c < 97 then own_ok3 c else if (122 : Int32) < c then own_ok3 c else 1
def own_okc (c : Int32) : Int32 := if c < 65 then own_ok2 c else if (90 : Int32) < c then own_ok2 c else 1
def own_dg (c : Int32) : Int32 := if c < 48 then 0 else if (57 : Int32) < c then 0 else 1
def own_le (c : Int32) : Int32 := if (c ||| (32 : Int32)) < 97 then 0 else if (122 : Int32) < (c ||| (32 : Int32)) then 0 else 1
def own_okl (c : Int32) : Int32 := if own_dg c = 0 then (if own_le c = 0 then own_ok4 c else 1) else 1
theorem own_ok01 (c : Int32) : own_01 (own_okc c) := by
  unfold own_okc own_ok2 own_ok3 own_ok4 own_01
  repeat' split
  all_goals simp
theorem own_ok1 {c : Int32} (h : ¬ own_okc c = 0) : own_okc c = 1 := (own_ok01 c).resolve_left h
theorem own_or32 (n : Nat) : n ||| 32 = 64 * (n / 64) + 32 + n % 32 := by
  have h1 : (n ||| 32) / 64 = n / 64 := by
    have := Nat.or_div_two_pow (a := n) (b := 32) (n := 6)
    simpa using this
  have h2 : (n ||| 32) % 64 = n % 64 ||| 32 := by
    have := Nat.or_mod_two_pow (a := n) (b := 32) (n := 6)
    simpa using this
  have h3 : ∀ r, r < 64 → r ||| 32 = 32 + r % 32 := by decide
  have h4 := h3 (n % 64) (Nat.mod_lt _ (by decide))
  have h5 := Nat.div_add_mod (n ||| 32) 64
  omega
theorem own_or32i {c : Int32} (h : own_c c) : (c ||| (32 : Int32)).toInt = 64 * (c.toInt / 64) + 32 + c.toInt % 32 := by
  obtain ⟨h1, h2⟩ := own_cnat h
  have e : (c ||| (32 : Int32)).toBitVec.toNat = c.toBitVec.toNat ||| 32 := by rw [Int32.toBitVec_or, BitVec.toNat_or]; rfl
  have e2 := own_or32 c.toBitVec.toNat
  have e3 : (c ||| (32 : Int32)).toInt = ((c ||| (32 : Int32)).toBitVec.toNat : Int) := by
    show (c ||| (32 : Int32)).toBitVec.toInt = _
    rw [BitVec.toInt_eq_toNat_cond, if_pos (by omega)]
  rw [e3, e, e2, h2]
  omega
theorem own_okE {c : Int32} (h : own_c c) : own_okc c = own_okl c := by
  have ho := own_or32i h
  have hn := own_cnat h
  have e46 : (46 : Int32).toInt = 46 := rfl
  have e95 : (95 : Int32).toInt = 95 := rfl
  have e45 : (45 : Int32).toInt = 45 := rfl
  have a1 : (65 : Int32).toInt = 65 := rfl
  have a2 : (90 : Int32).toInt = 90 := rfl
  have a3 : (97 : Int32).toInt = 97 := rfl
  have a4 : (122 : Int32).toInt = 122 := rfl
  have a5 : (48 : Int32).toInt = 48 := rfl
  have a6 : (57 : Int32).toInt = 57 := rfl
  have hd : own_dg c = if 48 ≤ c.toInt ∧ c.toInt ≤ 57 then 1 else 0 := by
    unfold own_dg
    simp only [Int32.lt_iff_toInt_lt, a5, a6]
    by_cases q1 : c.toInt < 48
    · rw [if_pos q1, if_neg (by omega)]
    · by_cases q2 : 57 < c.toInt
      · rw [if_neg q1, if_pos q2, if_neg (by omega)]
      · rw [if_neg q1, if_neg q2, if_pos (by omega)]
  have hl : own_le c = if (65 ≤ c.toInt ∧ c.toInt ≤ 90) ∨ (97 ≤ c.toInt ∧ c.toInt ≤ 122) then 1 else 0 := by
    unfold own_le
    simp only [Int32.lt_iff_toInt_lt, a3, a4, ho]
    by_cases q1 : 64 * (c.toInt / 64) + 32 + c.toInt % 32 < 97
    · rw [if_pos q1, if_neg (by omega)]
    · by_cases q2 : 122 < 64 * (c.toInt / 64) + 32 + c.toInt % 32
      · rw [if_neg q1, if_pos q2, if_neg (by omega)]
      · rw [if_neg q1, if_neg q2, if_pos (by omega)]
  have h3 : own_ok3 c = if 48 ≤ c.toInt ∧ c.toInt ≤ 57 then 1 else own_ok4 c := by
    unfold own_ok3
    simp only [Int32.lt_iff_toInt_lt, a5, a6]
    by_cases q1 : c.toInt < 48
    · rw [if_pos q1, if_neg (by omega)]
    · by_cases q2 : 57 < c.toInt
      · rw [if_neg q1, if_pos q2, if_neg (by omega)]
      · rw [if_neg q1, if_neg q2, if_pos (by omega)]
  have h2 : own_ok2 c = if 97 ≤ c.toInt ∧ c.toInt ≤ 122 then 1 else own_ok3 c := by
    unfold own_ok2
    simp only [Int32.lt_iff_toInt_lt, a3, a4]
    by_cases q1 : c.toInt < 97
    · rw [if_pos q1, if_neg (by omega)]
    · by_cases q2 : 122 < c.toInt
      · rw [if_neg q1, if_pos q2, if_neg (by omega)]
      · rw [if_neg q1, if_neg q2, if_pos (by omega)]
  have h1 : own_okc c = if 65 ≤ c.toInt ∧ c.toInt ≤ 90 then 1 else own_ok2 c := by
    unfold own_okc
    simp only [Int32.lt_iff_toInt_lt, a1, a2]
    by_cases q1 : c.toInt < 65
    · rw [if_pos q1, if_neg (by omega)]
    · by_cases q2 : 90 < c.toInt
      · rw [if_neg q1, if_pos q2, if_neg (by omega)]
      · rw [if_neg q1, if_neg q2, if_pos (by omega)]
  rw [h1, h2, h3]
  unfold own_okl
  rw [hd, hl]
  by_cases q1 : 48 ≤ c.toInt ∧ c.toInt ≤ 57
  · rw [if_neg (by omega), if_neg (by omega), if_pos q1, if_neg (by rw [if_pos q1]; decide)]
  · rw [if_neg q1, if_neg q1, if_pos rfl]
    by_cases q2 : 65 ≤ c.toInt ∧ c.toInt ≤ 90
    · rw [if_pos q2, if_neg (by rw [if_pos (Or.inl q2)]; decide)]
    · by_cases q3 : 97 ≤ c.toInt ∧ c.toInt ≤ 122
      · rw [if_neg q2, if_pos q3, if_neg (by rw [if_pos (Or.inr q3)]; decide)]
      · rw [if_neg q2, if_neg q3, if_pos (by rw [if_neg (by omega)])]
theorem own_idx {x z : Int32} (h0 : ¬ x < 0) (h1 : x < z) : x.toNatClampNeg < z.toNatClampNeg := by
  rw [Int32.lt_iff_toInt_lt] at h0 h1
  have e0 : (0 : Int32).toInt = 0 := rfl
  have e1 : x.toNatClampNeg = x.toInt.toNat := rfl
  have e2 : z.toNatClampNeg = z.toInt.toNat := rfl
  omega
theorem own_t0 {i : Int32} (h : i.toNatClampNeg + 0 = 128) : ¬ (i < (128 : Int32)) := by
  rw [Int32.lt_iff_toInt_lt]
  have e1 : i.toNatClampNeg = i.toInt.toNat := rfl
  have e0 : (128 : Int32).toInt = 128 := rfl
  omega
theorem own_t1 {i : Int32} {n : Nat} (h : i.toNatClampNeg + (n + 1) = 128) : i < (128 : Int32) := by
  rw [Int32.lt_iff_toInt_lt]
  have e1 : i.toNatClampNeg = i.toInt.toNat := rfl
  have e0 : (128 : Int32).toInt = 128 := rfl
  omega
theorem own_t2 {i : Int32} {n : Nat} (h : i.toNatClampNeg + (n + 1) = 128) (h0 : ¬ i < 0) : (i + 1).toNatClampNeg + n = 128 ∧ ¬ (i + 1) < 0 := by
  rw [Int32.lt_iff_toInt_lt] at h0 ⊢
  have e1 : i.toNatClampNeg = i.toInt.toNat := rfl
  have e2 : (i + 1).toNatClampNeg = (i + 1).toInt.toNat := rfl
  have e0 : (0 : Int32).toInt = 0 := rfl
  have e3 : (i + 1).toInt = (i.toInt + 1).bmod (2 ^ 32) := Int32.toInt_add _ _
  rw [Int.bmod_eq_of_le (by omega) (by omega)] at e3
  omega
def own_csb128 : List Int32 := [65, 122, 48, 57, 46, 95, 45, 97, 122, 65, 90, 57, 48, 45, 95, 46, 65, 122, 48, 57, 46, 95, 45, 97, 122, 65, 90, 57, 48, 45, 95, 46, 65, 122, 48, 57, 46, 95, 45, 97, 122, 65, 90, 57, 48, 45, 95, 46, 65, 122, 48, 57, 46, 95, 45, 97, 122, 65, 90, 57, 48, 45, 95, 46, 65, 122, 48, 57, 46, 95, 45, 97, 122, 65, 90, 57, 48, 45, 95, 46, 65, 122, 48, 57, 46, 95, 45, 97, 122, 65, 90, 57, 48, 45, 95, 46, 65, 122, 48, 57, 46, 95, 45, 97, 122, 65, 90, 57, 48, 45, 95, 46, 65, 122, 48, 57, 46, 95, 45, 97, 122, 65, 90, 57, 48, 45, 95, 46]
def own_lit128 : List Value := own_csb128.map Value.int
def own_lat128 (j : Nat) : Int32 := own_csb128.getD j 0
theorem own_lat128_at (j : Nat) : own_lit128.getD j (.int 0) = .int (own_lat128 j) := by
  unfold own_lit128 own_lat128
  simp only [List.getD_eq_getElem?_getD, List.getElem?_map]
  cases own_csb128[j]? <;> rfl
theorem own_litN128 : 4 * ("Az09._-azAZ90-_.Az09._-azAZ90-_.Az09._-azAZ90-_.Az09._-azAZ90-_.Az09._-azAZ90-_.Az09._-azAZ90-_.Az09._-azAZ90-_.Az09._-azAZ90-_." : String).toList.length ≤ 512 := by decide +kernel
theorem own_litA128 : (∀ c ∈ ("Az09._-azAZ90-_.Az09._-azAZ90-_.Az09._-azAZ90-_.Az09._-azAZ90-_.Az09._-azAZ90-_.Az09._-azAZ90-_.Az09._-azAZ90-_.Az09._-azAZ90-_." : String).toList, c.toNat < 256) ∧ ("Az09._-azAZ90-_.Az09._-azAZ90-_.Az09._-azAZ90-_.Az09._-azAZ90-_.Az09._-azAZ90-_.Az09._-azAZ90-_.Az09._-azAZ90-_.Az09._-azAZ90-_." : String).toList.map (fun c => Value.int (Jvm.Lit.byteI c.toNat.toUInt16)) = own_lit128 := ⟨by decide +kernel, by decide +kernel⟩
theorem own_litL128 : (128 : Int32).toNatClampNeg = own_lit128.length := by decide +kernel
def own_csb129 : List Int32 := [65, 122, 48, 57, 46, 95, 45, 97, 122, 65, 90, 57, 48, 45, 95, 46, 65, 122, 48, 57, 46, 95, 45, 97, 122, 65, 90, 57, 48, 45, 95, 46, 65, 122, 48, 57, 46, 95, 45, 97, 122, 65, 90, 57, 48, 45, 95, 46, 65, 122, 48, 57, 46, 95, 45, 97, 122, 65, 90, 57, 48, 45, 95, 46, 65, 122, 48, 57, 46, 95, 45, 97, 122, 65, 90, 57, 48, 45, 95, 46, 65, 122, 48, 57, 46, 95, 45, 97, 122, 65, 90, 57, 48, 45, 95, 46, 65, 122, 48, 57, 46, 95, 45, 97, 122, 65, 90, 57, 48, 45, 95, 46, 65, 122, 48, 57, 46, 95, 45, 97, 122, 65, 90, 57, 48, 45, 95, 46, 122]
def own_lit129 : List Value := own_csb129.map Value.int
def own_lat129 (j : Nat) : Int32 := own_csb129.getD j 0
theorem own_lat129_at (j : Nat) : own_lit129.getD j (.int 0) = .int (own_lat129 j) := by
  unfold own_lit129 own_lat129
  simp only [List.getD_eq_getElem?_getD, List.getElem?_map]
  cases own_csb129[j]? <;> rfl
theorem own_litN129 : 4 * ("Az09._-azAZ90-_.Az09._-azAZ90-_.Az09._-azAZ90-_.Az09._-azAZ90-_.Az09._-azAZ90-_.Az09._-azAZ90-_.Az09._-azAZ90-_.Az09._-azAZ90-_.z" : String).toList.length ≤ 516 := by decide +kernel
theorem own_litA129 : (∀ c ∈ ("Az09._-azAZ90-_.Az09._-azAZ90-_.Az09._-azAZ90-_.Az09._-azAZ90-_.Az09._-azAZ90-_.Az09._-azAZ90-_.Az09._-azAZ90-_.Az09._-azAZ90-_.z" : String).toList, c.toNat < 256) ∧ ("Az09._-azAZ90-_.Az09._-azAZ90-_.Az09._-azAZ90-_.Az09._-azAZ90-_.Az09._-azAZ90-_.Az09._-azAZ90-_.Az09._-azAZ90-_.Az09._-azAZ90-_.z" : String).toList.map (fun c => Value.int (Jvm.Lit.byteI c.toNat.toUInt16)) = own_lit129 := ⟨by decide +kernel, by decide +kernel⟩
theorem own_litL129 : (129 : Int32).toNatClampNeg = own_lit129.length := by decide +kernel
theorem own_litok : ∀ j, j < 128 → own_okc (own_lat128 j &&& 255) = 1 := by decide +kernel
theorem own_litne {i : Int32} (h : i < (128 : Int32)) (h0 : ¬ i < 0) : ¬ (own_okc ((own_lat128 i.toNatClampNeg) &&& 255) = 0) := by
  rw [own_litok _ (own_idx h0 h)]; decide
theorem own_rem5 (x : Int32) : ((x &&& 2147483647) % (5 : Int32)) = 0 ∨ ((x &&& 2147483647) % (5 : Int32)) = 1 ∨ ((x &&& 2147483647) % (5 : Int32)) = 2 ∨ ((x &&& 2147483647) % (5 : Int32)) = 3 ∨ ((x &&& 2147483647) % (5 : Int32)) = 4 := by
  have h := (c_andS x 2147483647).2.2 (by decide)
  have e : ((x &&& 2147483647) % (5 : Int32)).toInt = (x &&& 2147483647).toInt.tmod 5 := Int32.toInt_mod _ _
  have h1 := Int.tmod_nonneg 5 h
  have h2 := Int.tmod_lt_of_pos (x &&& 2147483647).toInt (show (0 : Int) < 5 by decide)
  rcases Int.lt_or_le ((x &&& 2147483647).toInt.tmod 5) 1 with q | q
  · exact Or.inl (Int32.toInt_inj.mp (show _ = (0 : Int) by omega))
  · skip
    rcases Int.lt_or_le ((x &&& 2147483647).toInt.tmod 5) 2 with q | q
    · exact Or.inr (Or.inl (Int32.toInt_inj.mp (show _ = (1 : Int) by omega)))
    · skip
      rcases Int.lt_or_le ((x &&& 2147483647).toInt.tmod 5) 3 with q | q
      · exact Or.inr (Or.inr (Or.inl (Int32.toInt_inj.mp (show _ = (2 : Int) by omega))))
      · skip
        rcases Int.lt_or_le ((x &&& 2147483647).toInt.tmod 5) 4 with q | q
        · exact Or.inr (Or.inr (Or.inr (Or.inl (Int32.toInt_inj.mp (show _ = (3 : Int) by omega)))))
        · exact Or.inr (Or.inr (Or.inr (Or.inr ((Int32.toInt_inj.mp (show _ = (4 : Int) by omega))))))

theorem o_loop {p : Program} {l : Launch} {e : Env} {R : Room} {s : State} {m : MethodId} {args : Array Value} {below : List Frame} {meth : Method} {c : Code} {T : State} {locs : List Loc} {cells slots : Nat} {Z : State} {h hb0 : Heap} {ws : List Addr} {own : String} {I : Heap → Prop} {P : State → Outcome → Prop} (W : Wk p l e R s m args below meth c own Z hb0 ws I T h locs cells slots) (C : Nat → Int32 → Slot → Heap → Prop) (q : Nat) (FL : Int32 → Slot → Array Slot) (i0 : Int32) (s0 : Slot) (n0 : Nat) (c0 : C n0 i0 s0 h)
    (Z0 : ∀ i s3 T h locs, Wk p l e R s m args below meth c own Z hb0 ws I T h locs cells slots → C 0 i s3 h → Gl p.tables e below P T m q (FL i s3) [])
    (St : ∀ n, (∀ i s3 T h locs, Wk p l e R s m args below meth c own Z hb0 ws I T h locs cells slots → C n i s3 h → Gl p.tables e below P T m q (FL i s3) []) → ∀ i s3 T h locs, Wk p l e R s m args below meth c own Z hb0 ws I T h locs cells slots → C (n + 1) i s3 h → Gl p.tables e below P T m q (FL i s3) []) :
    Gl p.tables e below P T m q (FL i0 s0) [] := by
  have key : ∀ n i s3 T h locs, Wk p l e R s m args below meth c own Z hb0 ws I T h locs cells slots → C n i s3 h → Gl p.tables e below P T m q (FL i s3) [] := by
    intro n
    induction n with
    | zero => exact Z0
    | succ n ih => exact St n ih
  exact key n0 i0 s0 T h locs W c0
theorem o_tail {p : Program} {l : Launch} {e : Env} {R : Room} {s : State} {m : MethodId} {args : Array Value} {below : List Frame} {meth : Method} {c : Code} {T : State} {locs : List Loc} {cells slots : Nat} {Z : State} {h hb0 : Heap} {ws : List Addr} {own : String} {EL : List (String × Nat)} {V0 : Vm} {P : State → Outcome → Prop} {pc : Nat} {L : Array Slot} {S : List Value} (W : Wk p l e R (s.setVm V0) m args below meth c own Z hb0 ws (IW s Z EL V0) T h locs cells slots) {α : Type} (q : Nat) (FL : α → Array Slot) (cm sm : Nat)
    (A : (∀ V T h locs cells slots, Wk p l e R (s.setVm V) m args below meth c own Z hb0 ws (IW s Z EL V) T h locs cells slots → cells ≤ cm → slots ≤ sm → ∀ v, Gl p.tables e below P T m q (FL v) []) → Gl p.tables e below P T m pc L S)
    (B : ∀ V T h locs cells slots, Wk p l e R (s.setVm V) m args below meth c own Z hb0 ws (IW s Z EL V) T h locs cells slots → cells ≤ cm → slots ≤ sm → ∀ v, Gl p.tables e below P T m q (FL v) []) : Gl p.tables e below P T m pc L S := A B

theorem w0 {Z a0} (hw : HW Z a0) : ((Cond.constant "com/example/revision/revision/core/RecordKeyIsValidNamePinLaw" 7 (2147483647 : Int32))).before a0 Z = true := wa hw 0 rfl
theorem w1 {Z a0} (hw : HW Z a0) : ((Cond.methodLink "com/example/revision/revision/core/RecordKeyIsValidNamePinLaw" 8 mn4)).before a0 Z = true := wa hw 1 rfl
theorem w2 {Z a0} (hw : HW Z a0) : ((Cond.static mn4)).before a0 Z = true := wa hw 2 rfl
theorem w3 {Z a0} (hw : HW Z a0) : ((Cond.initialized "com/example/revision/revision/core/RecordKeyIsValidNamePinLaw")).before a0 Z = true := wa hw 3 rfl
theorem w4 {Z a0} (hw : HW Z a0) : ((Cond.code mn4 method_2_code 2 (Option.some FieldType.char))).before a0 Z = true := wa hw 4 rfl
theorem w5 {Z a0} (hw : HW Z a0) : ((Cond.arrayClass FieldType.char)).before a0 Z = true := wa hw 5 rfl
theorem w6 {Z a0} (hw : HW Z a0) : ((Cond.classLink "com/example/revision/revision/core/RecordKeyIsValidNamePinLaw" 14 s0)).before a0 Z = true := wa hw 6 rfl
theorem w7 {Z a0} (hw : HW Z a0) : ((Cond.instantiable s0 4)).before a0 Z = true := wa hw 7 rfl
theorem w8 {Z a0} (hw : HW Z a0) : ((Cond.initialized s0)).before a0 Z = true := wa hw 8 rfl
theorem w9 {Z a0} (hw : HW Z a0) : ((Cond.methodLink "com/example/revision/revision/core/RecordKeyIsValidNamePinLaw" 16 mn6)).before a0 Z = true := wa hw 9 rfl
theorem w10 {Z a0} (hw : HW Z a0) : ((Cond.instanceMethod mn6)).before a0 Z = true := wa hw 10 rfl
theorem w11 {Z a0} (hw : HW Z a0) : ((Cond.code mn6 jdk_42_method_3_code 2 (Option.none : Option Jvm.ClassFile.FieldType))).before a0 Z = true := wa hw 11 rfl
theorem w12 {Z a0} (hw : HW Z a0) : ((Cond.methodLink s0 27 mn5)).before a0 Z = true := wa hw 12 rfl
theorem w13 {Z a0} (hw : HW Z a0) : ((Cond.instanceMethod mn5)).before a0 Z = true := wa hw 13 rfl
theorem w15 {Z a0} (hw : HW Z a0) : ((Cond.code mn5 jdk_42_method_149_code 6 (Option.none : Option Jvm.ClassFile.FieldType))).before a0 Z = true := wa hw 15 rfl
theorem w16 {Z a0} (hw : HW Z a0) : ((Cond.methodLink s0 1 ⟨"java/lang/Object", "<init>", "()V"⟩)).before a0 Z = true := wa hw 16 rfl
theorem w17 {Z a0} (hw : HW Z a0) : ((Cond.instanceMethod ⟨"java/lang/Object", "<init>", "()V"⟩)).before a0 Z = true := wa hw 17 rfl
theorem w18 {Z a0} (hw : HW Z a0) : ((Cond.code ⟨"java/lang/Object", "<init>", "()V"⟩ object_method_1_code 1 (Option.none : Option Jvm.ClassFile.FieldType))).before a0 Z = true := wa hw 18 rfl
theorem w19 {Z a0} (hw : HW Z a0) : ((Cond.stringLink s0 7 "")).before a0 Z = true := wa hw 19 rfl
theorem w20 {Z a0} (hw : HW Z a0) : ((Cond.arrayClass FieldType.byte)).before a0 Z = true := wa hw 20 rfl
theorem w21 {Z a0} (hw : HW Z a0) : ((Cond.laysFinal s0 s0 "value" "[B")).before a0 Z = true := wa hw 21 rfl
theorem w22 {Z a0} (hw : HW Z a0) : ((Cond.laysFinal s0 s0 "coder" "B")).before a0 Z = true := wa hw 22 rfl
theorem w25 {Z a0} (hw : HW Z a0) : ((Cond.fieldLink s0 9 s0 "value" "[B")).before a0 Z = true := wa hw 25 rfl
theorem w26 {Z a0} (hw : HW Z a0) : ((Cond.fieldLink s0 15 s0 "coder" "B")).before a0 Z = true := wa hw 26 rfl
theorem w27 {Z a0} (hw : HW Z a0) : ((Cond.methodLink "com/example/revision/revision/core/RecordKeyIsValidNamePinLaw" 19 mn7)).before a0 Z = true := wa hw 27 rfl
theorem w28 {Z a0} (hw : HW Z a0) : ((Cond.static mn7)).before a0 Z = true := wa hw 28 rfl
theorem w29 {Z a0} (hw : HW Z a0) : ((Cond.initialized "com/example/revision/revision/core/RecordKey")).before a0 Z = true := wa hw 29 rfl
theorem w30 {Z a0} (hw : HW Z a0) : ((Cond.code mn7 prog_6_method_2_code 4 (Option.some FieldType.boolean))).before a0 Z = true := wa hw 30 rfl
theorem w31 {Z a0} (hw : HW Z a0) : ((Cond.methodLink "com/example/revision/revision/core/RecordKey" 22 mn0)).before a0 Z = true := wa hw 31 rfl
theorem w32 {Z a0} (hw : HW Z a0) : ((Cond.declares mn0)).before a0 Z = true := wa hw 32 rfl
theorem w33 {Z a0} (hw : HW Z a0) : ((Cond.instanceMethod mn0)).before a0 Z = true := wa hw 33 rfl
theorem w34 {Z a0} (hw : HW Z a0) : ((Cond.selects s0 mn0 mn0)).before a0 Z = true := wa hw 34 rfl
theorem w35 {Z a0} (hw : HW Z a0) : ((Cond.code mn0 jdk_42_method_55_code 1 (Option.some FieldType.boolean))).before a0 Z = true := wa hw 35 rfl
theorem w36 {Z a0} (hw : HW Z a0) : ((Cond.stringLink "com/example/revision/revision/core/RecordKeyIsValidNamePinLaw" 29 "Az09._-azAZ90-_.Az09._-azAZ90-_.Az09._-azAZ90-_.Az09._-azAZ90-_.Az09._-azAZ90-_.Az09._-azAZ90-_.Az09._-azAZ90-_.Az09._-azAZ90-_.")).before a0 Z = true := wa hw 36 rfl
theorem w37 {Z a0} (hw : HW Z a0) : ((Cond.stringLink "com/example/revision/revision/core/RecordKeyIsValidNamePinLaw" 31 "Az09._-azAZ90-_.Az09._-azAZ90-_.Az09._-azAZ90-_.Az09._-azAZ90-_.Az09._-azAZ90-_.Az09._-azAZ90-_.Az09._-azAZ90-_.Az09._-azAZ90-_.z")).before a0 Z = true := wa hw 37 rfl
theorem w38 {Z a0} (hw : HW Z a0) : ((Cond.methodLink "com/example/revision/revision/core/RecordKey" 28 mn1)).before a0 Z = true := wa hw 38 rfl
theorem w39 {Z a0} (hw : HW Z a0) : ((Cond.declares mn1)).before a0 Z = true := wa hw 39 rfl
theorem w40 {Z a0} (hw : HW Z a0) : ((Cond.instanceMethod mn1)).before a0 Z = true := wa hw 40 rfl
theorem w41 {Z a0} (hw : HW Z a0) : ((Cond.selects s0 mn1 mn1)).before a0 Z = true := wa hw 41 rfl
theorem w42 {Z a0} (hw : HW Z a0) : ((Cond.code mn1 jdk_42_method_54_code 1 (Option.some FieldType.int))).before a0 Z = true := wa hw 42 rfl
theorem w43 {Z a0} (hw : HW Z a0) : ((Cond.methodLink s0 335 mn11)).before a0 Z = true := wa hw 43 rfl
theorem w44 {Z a0} (hw : HW Z a0) : ((Cond.declares mn11)).before a0 Z = true := wa hw 44 rfl
theorem w45 {Z a0} (hw : HW Z a0) : ((Cond.instanceMethod mn11)).before a0 Z = true := wa hw 45 rfl
theorem w46 {Z a0} (hw : HW Z a0) : ((Cond.selects s0 mn11 mn11)).before a0 Z = true := wa hw 46 rfl
theorem w47 {Z a0} (hw : HW Z a0) : ((Cond.code mn11 jdk_42_method_152_code 1 (Option.some FieldType.byte))).before a0 Z = true := wa hw 47 rfl
theorem w48 {Z a0} (hw : HW Z a0) : ((Cond.fieldLink s0 38 s0 s8 "Z")).before a0 Z = true := wa hw 48 rfl
theorem w49 {Z a0} (hw : HW Z a0) : ((Cond.methodLink "com/example/revision/revision/core/RecordKey" 32 mn2)).before a0 Z = true := wa hw 49 rfl
theorem w50 {Z a0} (hw : HW Z a0) : ((Cond.declares mn2)).before a0 Z = true := wa hw 50 rfl
theorem w51 {Z a0} (hw : HW Z a0) : ((Cond.instanceMethod mn2)).before a0 Z = true := wa hw 51 rfl
theorem w52 {Z a0} (hw : HW Z a0) : ((Cond.selects s0 mn2 mn2)).before a0 Z = true := wa hw 52 rfl
theorem w53 {Z a0} (hw : HW Z a0) : ((Cond.code mn2 jdk_42_method_56_code 2 (Option.some FieldType.char))).before a0 Z = true := wa hw 53 rfl
theorem w54 {Z a0} (hw : HW Z a0) : ((Cond.methodLink s0 492 mn12)).before a0 Z = true := wa hw 54 rfl
theorem w55 {Z a0} (hw : HW Z a0) : ((Cond.declares mn12)).before a0 Z = true := wa hw 55 rfl
theorem w56 {Z a0} (hw : HW Z a0) : ((Cond.instanceMethod mn12)).before a0 Z = true := wa hw 56 rfl
theorem w57 {Z a0} (hw : HW Z a0) : ((Cond.selects s0 mn12 mn12)).before a0 Z = true := wa hw 57 rfl
theorem w58 {Z a0} (hw : HW Z a0) : ((Cond.code mn12 jdk_42_method_154_code 1 (Option.some FieldType.boolean))).before a0 Z = true := wa hw 58 rfl
theorem w59 {Z a0} (hw : HW Z a0) : ((Cond.methodLink s0 495 mn15)).before a0 Z = true := wa hw 59 rfl
theorem w60 {Z a0} (hw : HW Z a0) : ((Cond.static mn15)).before a0 Z = true := wa hw 60 rfl
theorem w61 {Z a0} (hw : HW Z a0) : ((Cond.initialized "java/lang/StringLatin1")).before a0 Z = true := wa hw 61 rfl
theorem w62 {Z a0} (hw : HW Z a0) : ((Cond.code mn15 jdk_43_method_2_code 2 (Option.some FieldType.char))).before a0 Z = true := wa hw 62 rfl
theorem w63 {Z a0} (hw : HW Z a0) : ((Cond.methodLink "java/lang/StringLatin1" 9 mn14)).before a0 Z = true := wa hw 63 rfl
theorem w64 {Z a0} (hw : HW Z a0) : ((Cond.static mn14)).before a0 Z = true := wa hw 64 rfl
theorem w65 {Z a0} (hw : HW Z a0) : ((Cond.code mn14 jdk_42_method_155_code 2 (Option.none : Option Jvm.ClassFile.FieldType))).before a0 Z = true := wa hw 65 rfl
theorem w66 {Z a0} (hw : HW Z a0) : ((Cond.fieldLink s0 1053 s2 s3 s4)).before a0 Z = true := wa hw 66 rfl
theorem w67 {Z a0} (hw : HW Z a0) : ((Cond.initialized s2)).before a0 Z = true := wa hw 67 rfl
theorem w68 {Z a0} (hw : HW Z a0) : ((Cond.methodLink s0 1059 mn13)).before a0 Z = true := wa hw 68 rfl
theorem w69 {Z a0} (hw : HW Z a0) : ((Cond.static mn13)).before a0 Z = true := wa hw 69 rfl
theorem w70 {Z a0} (hw : HW Z a0) : ((Cond.code mn13 jdk_41_method_11_code 3 (Option.some FieldType.int))).before a0 Z = true := wa hw 70 rfl
theorem w71 {Z a0} (hw : HW Z a0) : ((Cond.methodLink s0 177 mn9)).before a0 Z = true := wa hw 71 rfl
theorem w72 {Z a0} (hw : HW Z a0) : ((Cond.static mn9)).before a0 Z = true := wa hw 72 rfl
theorem w73 {Z a0} (hw : HW Z a0) : ((Cond.initialized s1)).before a0 Z = true := wa hw 73 rfl
theorem w74 {Z a0} (hw : HW Z a0) : ((Cond.code mn9 jdk_52_method_16_code 6 (Option.some (FieldType.array FieldType.byte)))).before a0 Z = true := wa hw 74 rfl
theorem w75 {Z a0} (hw : HW Z a0) : ((Cond.methodLink s1 115 mn8)).before a0 Z = true := wa hw 75 rfl
theorem w76 {Z a0} (hw : HW Z a0) : ((Cond.static mn8)).before a0 Z = true := wa hw 76 rfl
theorem w77 {Z a0} (hw : HW Z a0) : ((Cond.code mn8 jdk_52_method_21_code 7 (Option.some FieldType.int))).before a0 Z = true := wa hw 77 rfl
theorem w78 {Z a0} (hw : HW Z a0) : ((Cond.methodLink s0 47 mn10)).before a0 Z = true := wa hw 78 rfl
theorem w79 {Z a0} (hw : HW Z a0) : ((Cond.static mn10)).before a0 Z = true := wa hw 79 rfl
theorem w80 {Z a0} (hw : HW Z a0) : ((Cond.code mn10 jdk_52_method_15_code 2 (Option.some FieldType.byte))).before a0 Z = true := wa hw 80 rfl
theorem w81 {Z a0} (hw : HW Z a0) : ((Cond.methodLink "com/example/revision/revision/core/RecordKeyIsValidNamePinLaw" 25 mn3)).before a0 Z = true := wa hw 81 rfl
theorem w82 {Z a0} (hw : HW Z a0) : ((Cond.static mn3)).before a0 Z = true := wa hw 82 rfl
theorem w83 {Z a0} (hw : HW Z a0) : ((Cond.code mn3 method_3_code 5 (Option.some FieldType.boolean))).before a0 Z = true := wa hw 83 rfl
theorem w84 {Z a0} (hw : HW Z a0) : ((Cond.methodLink s1 119 mn19)).before a0 Z = true := wa hw 84 rfl
theorem w85 {Z a0} (hw : HW Z a0) : ((Cond.static mn19)).before a0 Z = true := wa hw 85 rfl
theorem w86 {Z a0} (hw : HW Z a0) : ((Cond.code mn19 jdk_52_method_14_code 5 (Option.some (FieldType.array FieldType.byte)))).before a0 Z = true := wa hw 86 rfl
theorem w87 {Z a0} (hw : HW Z a0) : ((Cond.methodLink s1 107 mn17)).before a0 Z = true := wa hw 87 rfl
theorem w88 {Z a0} (hw : HW Z a0) : ((Cond.static mn17)).before a0 Z = true := wa hw 88 rfl
theorem w89 {Z a0} (hw : HW Z a0) : ((Cond.code mn17 jdk_52_method_2_code 1 (Option.some (FieldType.array FieldType.byte)))).before a0 Z = true := wa hw 89 rfl
theorem w90 {Z a0} (hw : HW Z a0) : ((Cond.methodLink s1 11 mn16)).before a0 Z = true := wa hw 90 rfl
theorem w91 {Z a0} (hw : HW Z a0) : ((Cond.static mn16)).before a0 Z = true := wa hw 91 rfl
theorem w92 {Z a0} (hw : HW Z a0) : ((Cond.code mn16 jdk_52_method_3_code 1 (Option.some FieldType.int))).before a0 Z = true := wa hw 92 rfl
theorem w93 {Z a0} (hw : HW Z a0) : ((Cond.constant s1 20 (1073741823 : Int32))).before a0 Z = true := wa hw 93 rfl
theorem w94 {Z a0} (hw : HW Z a0) : ((Cond.methodLink s1 111 mn18)).before a0 Z = true := wa hw 94 rfl
theorem w95 {Z a0} (hw : HW Z a0) : ((Cond.static mn18)).before a0 Z = true := wa hw 95 rfl
theorem w96 {Z a0} (hw : HW Z a0) : ((Cond.code mn18 jdk_52_method_4_code 3 (Option.none : Option Jvm.ClassFile.FieldType))).before a0 Z = true := wa hw 96 rfl
theorem w97 {Z a0} (hw : HW Z a0) : ((Cond.fieldLink s1 44 s1 s5 "Z")).before a0 Z = true := wa hw 97 rfl
theorem w98 {Z a0} (hw : HW Z a0) : ((Cond.fieldLink s1 59 s1 s6 "I")).before a0 Z = true := wa hw 98 rfl
theorem w99 {Z a0} (hw : HW Z a0) : ((Cond.fieldLink s1 63 s1 s7 "I")).before a0 Z = true := wa hw 99 rfl
theorem w100 {Z a0} (hw : HW Z a0) : ((Cond.methodLink s1 71 mn20)).before a0 Z = true := wa hw 100 rfl
theorem w101 {Z a0} (hw : HW Z a0) : ((Cond.static mn20)).before a0 Z = true := wa hw 101 rfl
theorem w102 {Z a0} (hw : HW Z a0) : ((Cond.code mn20 jdk_52_method_5_code 2 (Option.some FieldType.char))).before a0 Z = true := wa hw 102 rfl
theorem w103 {Z a0} (hw : HW Z a0) : ((Cond.methodLink s0 498 mn23)).before a0 Z = true := wa hw 103 rfl
theorem w104 {Z a0} (hw : HW Z a0) : ((Cond.static mn23)).before a0 Z = true := wa hw 104 rfl
theorem w105 {Z a0} (hw : HW Z a0) : ((Cond.code mn23 jdk_52_method_83_code 2 (Option.some FieldType.char))).before a0 Z = true := wa hw 105 rfl
theorem w106 {Z a0} (hw : HW Z a0) : ((Cond.methodLink s1 67 mn22)).before a0 Z = true := wa hw 106 rfl
theorem w107 {Z a0} (hw : HW Z a0) : ((Cond.static mn22)).before a0 Z = true := wa hw 107 rfl
theorem w108 {Z a0} (hw : HW Z a0) : ((Cond.code mn22 jdk_52_method_91_code 2 (Option.none : Option Jvm.ClassFile.FieldType))).before a0 Z = true := wa hw 108 rfl
theorem w109 {Z a0} (hw : HW Z a0) : ((Cond.methodLink s1 48 mn21)).before a0 Z = true := wa hw 109 rfl
theorem w110 {Z a0} (hw : HW Z a0) : ((Cond.static mn21)).before a0 Z = true := wa hw 110 rfl
theorem w111 {Z a0} (hw : HW Z a0) : ((Cond.code mn21 jdk_52_method_6_code 1 (Option.some FieldType.int))).before a0 Z = true := wa hw 111 rfl
theorem w112 {Z a0} (hw : HW Z a0) : ((Cond.methodLink s1 414 mn14)).before a0 Z = true := wa hw 112 rfl
theorem d1_0 : dc c0_ 0 (.iload_n 1) 1 := by decide +kernel
theorem d1_1 : dc c0_ 1 (.ifCond .eq 11) 3 := by decide +kernel
theorem d1_4 : dc c0_ 4 (.iload_n 0) 1 := by decide +kernel
theorem d1_5 : dc c0_ 5 (.bipush 127) 2 := by decide +kernel
theorem d1_7 : dc c0_ 7 (.iand) 1 := by decide +kernel
theorem d1_8 : dc c0_ 8 (.i2c) 1 := by decide +kernel
theorem d1_9 : dc c0_ 9 (.goto 5) 3 := by decide +kernel
theorem d1_12 : dc c0_ 12 (.iload_n 0) 1 := by decide +kernel
theorem d1_13 : dc c0_ 13 (.i2c) 1 := by decide +kernel
theorem d1_14 : dc c0_ 14 (.ireturn) 1 := by decide +kernel
theorem d2_0 : dc c1_ 0 (.aload_n 0) 1 := by decide +kernel
theorem d2_1 : dc c1_ 1 (.aload_n 1) 1 := by decide +kernel
theorem d2_2 : dc c1_ 2 (.iconst 0) 1 := by decide +kernel
theorem d2_3 : dc c1_ 3 (.aload_n 1) 1 := by decide +kernel
theorem d2_4 : dc c1_ 4 (.arraylength) 1 := by decide +kernel
theorem d2_5 : dc c1_ 5 (.aconst_null) 1 := by decide +kernel
theorem d2_6 : dc c1_ 6 (.invokespecial 27) 3 := by decide +kernel
theorem d2_9 : dc c1_ 9 (.return_) 1 := by decide +kernel
theorem d3_0 : dc c2_ 0 (.aload_n 0) 1 := by decide +kernel
theorem d3_1 : dc c2_ 1 (.invokespecial 1) 3 := by decide +kernel
theorem d3_4 : dc c2_ 4 (.iload_n 3) 1 := by decide +kernel
theorem d3_5 : dc c2_ 5 (.ifCond .ne 22) 3 := by decide +kernel
theorem d3_8 : dc c2_ 8 (.aload_n 0) 1 := by decide +kernel
theorem d3_9 : dc c2_ 9 (.ldc 7) 2 := by decide +kernel
theorem d3_11 : dc c2_ 11 (.getfield 9) 3 := by decide +kernel
theorem d3_14 : dc c2_ 14 (.putfield 9) 3 := by decide +kernel
theorem d3_17 : dc c2_ 17 (.aload_n 0) 1 := by decide +kernel
theorem d3_18 : dc c2_ 18 (.ldc 7) 2 := by decide +kernel
theorem d3_20 : dc c2_ 20 (.getfield 15) 3 := by decide +kernel
theorem d3_23 : dc c2_ 23 (.putfield 15) 3 := by decide +kernel
theorem d3_26 : dc c2_ 26 (.return_) 1 := by decide +kernel
theorem d3_27 : dc c2_ 27 (.getstatic 38) 3 := by decide +kernel
theorem d3_30 : dc c2_ 30 (.ifCond .eq 28) 3 := by decide +kernel
theorem d3_33 : dc c2_ 33 (.aload_n 1) 1 := by decide +kernel
theorem d3_34 : dc c2_ 34 (.iload_n 2) 1 := by decide +kernel
theorem d3_35 : dc c2_ 35 (.iload_n 3) 1 := by decide +kernel
theorem d3_36 : dc c2_ 36 (.invokestatic 177) 3 := by decide +kernel
theorem d3_39 : dc c2_ 39 (.astore 5) 2 := by decide +kernel
theorem d3_41 : dc c2_ 41 (.aload_n 0) 1 := by decide +kernel
theorem d3_42 : dc c2_ 42 (.aload 5) 2 := by decide +kernel
theorem d3_44 : dc c2_ 44 (.iload_n 3) 1 := by decide +kernel
theorem d3_45 : dc c2_ 45 (.invokestatic 47) 3 := by decide +kernel
theorem d3_48 : dc c2_ 48 (.putfield 15) 3 := by decide +kernel
theorem d3_51 : dc c2_ 51 (.aload_n 0) 1 := by decide +kernel
theorem d3_52 : dc c2_ 52 (.aload 5) 2 := by decide +kernel
theorem d3_54 : dc c2_ 54 (.putfield 9) 3 := by decide +kernel
theorem d3_57 : dc c2_ 57 (.return_) 1 := by decide +kernel
theorem d5_0 : dc c3_ 0 (.aload_n 0) 1 := by decide +kernel
theorem d5_1 : dc c3_ 1 (.ifnull 20) 3 := by decide +kernel
theorem d5_4 : dc c3_ 4 (.aload_n 0) 1 := by decide +kernel
theorem d5_5 : dc c3_ 5 (.invokevirtual 22) 3 := by decide +kernel
theorem d5_8 : dc c3_ 8 (.ifCond .ne 13) 3 := by decide +kernel
theorem d5_11 : dc c3_ 11 (.aload_n 0) 1 := by decide +kernel
theorem d5_12 : dc c3_ 12 (.invokevirtual 28) 3 := by decide +kernel
theorem d5_15 : dc c3_ 15 (.sipush 128) 3 := by decide +kernel
theorem d5_18 : dc c3_ 18 (.if_icmp .le 5) 3 := by decide +kernel
theorem d5_21 : dc c3_ 21 (.iconst 0) 1 := by decide +kernel
theorem d5_22 : dc c3_ 22 (.ireturn) 1 := by decide +kernel
theorem d5_23 : dc c3_ 23 (.iconst 1) 1 := by decide +kernel
theorem d5_24 : dc c3_ 24 (.istore_n 1) 1 := by decide +kernel
theorem d5_25 : dc c3_ 25 (.iconst 0) 1 := by decide +kernel
theorem d5_26 : dc c3_ 26 (.istore_n 2) 1 := by decide +kernel
theorem d5_27 : dc c3_ 27 (.iload_n 2) 1 := by decide +kernel
theorem d5_28 : dc c3_ 28 (.aload_n 0) 1 := by decide +kernel
theorem d5_29 : dc c3_ 29 (.invokevirtual 28) 3 := by decide +kernel
theorem d5_32 : dc c3_ 32 (.if_icmp .ge 79) 3 := by decide +kernel
theorem d5_35 : dc c3_ 35 (.iload_n 1) 1 := by decide +kernel
theorem d5_36 : dc c3_ 36 (.ifCond .eq 75) 3 := by decide +kernel
theorem d5_39 : dc c3_ 39 (.aload_n 0) 1 := by decide +kernel
theorem d5_40 : dc c3_ 40 (.iload_n 2) 1 := by decide +kernel
theorem d5_41 : dc c3_ 41 (.invokevirtual 32) 3 := by decide +kernel
theorem d5_44 : dc c3_ 44 (.istore_n 3) 1 := by decide +kernel
theorem d5_45 : dc c3_ 45 (.iload_n 3) 1 := by decide +kernel
theorem d5_46 : dc c3_ 46 (.bipush 65) 2 := by decide +kernel
theorem d5_48 : dc c3_ 48 (.if_icmp .lt 9) 3 := by decide +kernel
theorem d5_51 : dc c3_ 51 (.iload_n 3) 1 := by decide +kernel
theorem d5_52 : dc c3_ 52 (.bipush 90) 2 := by decide +kernel
theorem d5_54 : dc c3_ 54 (.if_icmp .le 45) 3 := by decide +kernel
theorem d5_57 : dc c3_ 57 (.iload_n 3) 1 := by decide +kernel
theorem d5_58 : dc c3_ 58 (.bipush 97) 2 := by decide +kernel
theorem d5_60 : dc c3_ 60 (.if_icmp .lt 9) 3 := by decide +kernel
theorem d5_63 : dc c3_ 63 (.iload_n 3) 1 := by decide +kernel
theorem d5_64 : dc c3_ 64 (.bipush 122) 2 := by decide +kernel
theorem d5_66 : dc c3_ 66 (.if_icmp .le 33) 3 := by decide +kernel
theorem d5_69 : dc c3_ 69 (.iload_n 3) 1 := by decide +kernel
theorem d5_70 : dc c3_ 70 (.bipush 48) 2 := by decide +kernel
theorem d5_72 : dc c3_ 72 (.if_icmp .lt 9) 3 := by decide +kernel
theorem d5_75 : dc c3_ 75 (.iload_n 3) 1 := by decide +kernel
theorem d5_76 : dc c3_ 76 (.bipush 57) 2 := by decide +kernel
theorem d5_78 : dc c3_ 78 (.if_icmp .le 21) 3 := by decide +kernel
theorem d5_81 : dc c3_ 81 (.iload_n 3) 1 := by decide +kernel
theorem d5_82 : dc c3_ 82 (.bipush 46) 2 := by decide +kernel
theorem d5_84 : dc c3_ 84 (.if_icmp .eq 15) 3 := by decide +kernel
theorem d5_87 : dc c3_ 87 (.iload_n 3) 1 := by decide +kernel
theorem d5_88 : dc c3_ 88 (.bipush 95) 2 := by decide +kernel
theorem d5_90 : dc c3_ 90 (.if_icmp .eq 9) 3 := by decide +kernel
theorem d5_93 : dc c3_ 93 (.iload_n 3) 1 := by decide +kernel
theorem d5_94 : dc c3_ 94 (.bipush 45) 2 := by decide +kernel
theorem d5_96 : dc c3_ 96 (.if_icmp .ne 7) 3 := by decide +kernel
theorem d5_99 : dc c3_ 99 (.iconst 1) 1 := by decide +kernel
theorem d5_100 : dc c3_ 100 (.goto 4) 3 := by decide +kernel
theorem d5_103 : dc c3_ 103 (.iconst 0) 1 := by decide +kernel
theorem d5_104 : dc c3_ 104 (.istore_n 1) 1 := by decide +kernel
theorem d5_105 : dc c3_ 105 (.iinc 2 1) 3 := by decide +kernel
theorem d5_108 : dc c3_ 108 (.goto (-81)) 3 := by decide +kernel
theorem d5_111 : dc c3_ 111 (.iload_n 1) 1 := by decide +kernel
theorem d5_112 : dc c3_ 112 (.ireturn) 1 := by decide +kernel
theorem d6_0 : dc c4_ 0 (.aload_n 0) 1 := by decide +kernel
theorem d6_1 : dc c4_ 1 (.getfield 9) 3 := by decide +kernel
theorem d6_4 : dc c4_ 4 (.arraylength) 1 := by decide +kernel
theorem d6_5 : dc c4_ 5 (.ifCond .ne 7) 3 := by decide +kernel
theorem d6_8 : dc c4_ 8 (.iconst 1) 1 := by decide +kernel
theorem d6_9 : dc c4_ 9 (.goto 4) 3 := by decide +kernel
theorem d6_12 : dc c4_ 12 (.iconst 0) 1 := by decide +kernel
theorem d6_13 : dc c4_ 13 (.ireturn) 1 := by decide +kernel
theorem d7_0 : dc c5_ 0 (.aload_n 0) 1 := by decide +kernel
theorem d7_1 : dc c5_ 1 (.getfield 9) 3 := by decide +kernel
theorem d7_4 : dc c5_ 4 (.arraylength) 1 := by decide +kernel
theorem d7_5 : dc c5_ 5 (.aload_n 0) 1 := by decide +kernel
theorem d7_6 : dc c5_ 6 (.invokevirtual 335) 3 := by decide +kernel
theorem d7_9 : dc c5_ 9 (.ishr) 1 := by decide +kernel
theorem d7_10 : dc c5_ 10 (.ireturn) 1 := by decide +kernel
theorem d8_0 : dc c6_ 0 (.getstatic 38) 3 := by decide +kernel
theorem d8_3 : dc c6_ 3 (.ifCond .eq 10) 3 := by decide +kernel
theorem d8_6 : dc c6_ 6 (.aload_n 0) 1 := by decide +kernel
theorem d8_7 : dc c6_ 7 (.getfield 15) 3 := by decide +kernel
theorem d8_10 : dc c6_ 10 (.goto 4) 3 := by decide +kernel
theorem d8_14 : dc c6_ 14 (.ireturn) 1 := by decide +kernel
theorem d9_0 : dc c7_ 0 (.aload_n 0) 1 := by decide +kernel
theorem d9_1 : dc c7_ 1 (.invokevirtual 492) 3 := by decide +kernel
theorem d9_4 : dc c7_ 4 (.ifCond .eq 12) 3 := by decide +kernel
theorem d9_7 : dc c7_ 7 (.aload_n 0) 1 := by decide +kernel
theorem d9_8 : dc c7_ 8 (.getfield 9) 3 := by decide +kernel
theorem d9_11 : dc c7_ 11 (.iload_n 1) 1 := by decide +kernel
theorem d9_12 : dc c7_ 12 (.invokestatic 495) 3 := by decide +kernel
theorem d9_15 : dc c7_ 15 (.ireturn) 1 := by decide +kernel
theorem d9_16 : dc c7_ 16 (.aload_n 0) 1 := by decide +kernel
theorem d9_17 : dc c7_ 17 (.getfield 9) 3 := by decide +kernel
theorem d9_20 : dc c7_ 20 (.iload_n 1) 1 := by decide +kernel
theorem d9_21 : dc c7_ 21 (.invokestatic 498) 3 := by decide +kernel
theorem d9_24 : dc c7_ 24 (.ireturn) 1 := by decide +kernel
theorem d10_0 : dc c8_ 0 (.getstatic 38) 3 := by decide +kernel
theorem d10_3 : dc c8_ 3 (.ifCond .eq 14) 3 := by decide +kernel
theorem d10_6 : dc c8_ 6 (.aload_n 0) 1 := by decide +kernel
theorem d10_7 : dc c8_ 7 (.getfield 15) 3 := by decide +kernel
theorem d10_10 : dc c8_ 10 (.ifCond .ne 7) 3 := by decide +kernel
theorem d10_13 : dc c8_ 13 (.iconst 1) 1 := by decide +kernel
theorem d10_14 : dc c8_ 14 (.goto 4) 3 := by decide +kernel
theorem d10_17 : dc c8_ 17 (.iconst 0) 1 := by decide +kernel
theorem d10_18 : dc c8_ 18 (.ireturn) 1 := by decide +kernel
theorem d11_0 : dc c9_ 0 (.iload_n 1) 1 := by decide +kernel
theorem d11_1 : dc c9_ 1 (.aload_n 0) 1 := by decide +kernel
theorem d11_2 : dc c9_ 2 (.arraylength) 1 := by decide +kernel
theorem d11_3 : dc c9_ 3 (.invokestatic 9) 3 := by decide +kernel
theorem d11_6 : dc c9_ 6 (.aload_n 0) 1 := by decide +kernel
theorem d11_7 : dc c9_ 7 (.iload_n 1) 1 := by decide +kernel
theorem d11_8 : dc c9_ 8 (.baload) 1 := by decide +kernel
theorem d11_9 : dc c9_ 9 (.sipush 255) 3 := by decide +kernel
theorem d11_12 : dc c9_ 12 (.iand) 1 := by decide +kernel
theorem d11_13 : dc c9_ 13 (.i2c) 1 := by decide +kernel
theorem d11_14 : dc c9_ 14 (.ireturn) 1 := by decide +kernel
theorem d12_0 : dc c10_ 0 (.iload_n 0) 1 := by decide +kernel
theorem d12_1 : dc c10_ 1 (.iload_n 1) 1 := by decide +kernel
theorem d12_2 : dc c10_ 2 (.getstatic 1053) 3 := by decide +kernel
theorem d12_5 : dc c10_ 5 (.invokestatic 1059) 3 := by decide +kernel
theorem d12_8 : dc c10_ 8 (.pop) 1 := by decide +kernel
theorem d12_9 : dc c10_ 9 (.return_) 1 := by decide +kernel
theorem d13_0 : dc c11_ 0 (.iload_n 0) 1 := by decide +kernel
theorem d13_1 : dc c11_ 1 (.ifCond .lt 8) 3 := by decide +kernel
theorem d13_4 : dc c11_ 4 (.iload_n 0) 1 := by decide +kernel
theorem d13_5 : dc c11_ 5 (.iload_n 1) 1 := by decide +kernel
theorem d13_6 : dc c11_ 6 (.if_icmp .lt 10) 3 := by decide +kernel
theorem d13_16 : dc c11_ 16 (.iload_n 0) 1 := by decide +kernel
theorem d13_17 : dc c11_ 17 (.ireturn) 1 := by decide +kernel
theorem d14_0 : dc c12_ 0 (.iload_n 2) 1 := by decide +kernel
theorem d14_1 : dc c12_ 1 (.newarray .byte) 2 := by decide +kernel
theorem d14_3 : dc c12_ 3 (.astore_n 3) 1 := by decide +kernel
theorem d14_4 : dc c12_ 4 (.aload_n 0) 1 := by decide +kernel
theorem d14_5 : dc c12_ 5 (.iload_n 1) 1 := by decide +kernel
theorem d14_6 : dc c12_ 6 (.aload_n 3) 1 := by decide +kernel
theorem d14_7 : dc c12_ 7 (.iconst 0) 1 := by decide +kernel
theorem d14_8 : dc c12_ 8 (.iload_n 2) 1 := by decide +kernel
theorem d14_9 : dc c12_ 9 (.invokestatic 115) 3 := by decide +kernel
theorem d14_12 : dc c12_ 12 (.istore 4) 2 := by decide +kernel
theorem d14_14 : dc c12_ 14 (.iload 4) 2 := by decide +kernel
theorem d14_16 : dc c12_ 16 (.iload_n 2) 1 := by decide +kernel
theorem d14_17 : dc c12_ 17 (.if_icmp .eq 40) 3 := by decide +kernel
theorem d14_20 : dc c12_ 20 (.aload_n 0) 1 := by decide +kernel
theorem d14_21 : dc c12_ 21 (.iload_n 1) 1 := by decide +kernel
theorem d14_22 : dc c12_ 22 (.iload_n 2) 1 := by decide +kernel
theorem d14_23 : dc c12_ 23 (.invokestatic 119) 3 := by decide +kernel
theorem d14_26 : dc c12_ 26 (.astore 5) 2 := by decide +kernel
theorem d14_28 : dc c12_ 28 (.aload 5) 2 := by decide +kernel
theorem d14_30 : dc c12_ 30 (.iload 4) 2 := by decide +kernel
theorem d14_32 : dc c12_ 32 (.invokestatic 71) 3 := by decide +kernel
theorem d14_35 : dc c12_ 35 (.sipush 255) 3 := by decide +kernel
theorem d14_38 : dc c12_ 38 (.if_icmp .gt 16) 3 := by decide +kernel
theorem d14_54 : dc c12_ 54 (.aload 5) 2 := by decide +kernel
theorem d14_56 : dc c12_ 56 (.areturn) 1 := by decide +kernel
theorem d14_57 : dc c12_ 57 (.aload_n 3) 1 := by decide +kernel
theorem d14_58 : dc c12_ 58 (.areturn) 1 := by decide +kernel
theorem d15_0 : dc c13_ 0 (.iconst 0) 1 := by decide +kernel
theorem d15_1 : dc c13_ 1 (.istore 5) 2 := by decide +kernel
theorem d15_3 : dc c13_ 3 (.iload 5) 2 := by decide +kernel
theorem d15_5 : dc c13_ 5 (.iload 4) 2 := by decide +kernel
theorem d15_7 : dc c13_ 7 (.if_icmp .ge 37) 3 := by decide +kernel
theorem d15_10 : dc c13_ 10 (.aload_n 0) 1 := by decide +kernel
theorem d15_11 : dc c13_ 11 (.iload_n 1) 1 := by decide +kernel
theorem d15_12 : dc c13_ 12 (.caload) 1 := by decide +kernel
theorem d15_13 : dc c13_ 13 (.istore 6) 2 := by decide +kernel
theorem d15_15 : dc c13_ 15 (.iload 6) 2 := by decide +kernel
theorem d15_17 : dc c13_ 17 (.sipush 255) 3 := by decide +kernel
theorem d15_20 : dc c13_ 20 (.if_icmp .le 6) 3 := by decide +kernel
theorem d15_23 : dc c13_ 23 (.iload 5) 2 := by decide +kernel
theorem d15_25 : dc c13_ 25 (.ireturn) 1 := by decide +kernel
theorem d15_26 : dc c13_ 26 (.aload_n 2) 1 := by decide +kernel
theorem d15_27 : dc c13_ 27 (.iload_n 3) 1 := by decide +kernel
theorem d15_28 : dc c13_ 28 (.iload 6) 2 := by decide +kernel
theorem d15_30 : dc c13_ 30 (.i2b) 1 := by decide +kernel
theorem d15_31 : dc c13_ 31 (.bastore) 1 := by decide +kernel
theorem d15_32 : dc c13_ 32 (.iinc 1 1) 3 := by decide +kernel
theorem d15_35 : dc c13_ 35 (.iinc 3 1) 3 := by decide +kernel
theorem d15_38 : dc c13_ 38 (.iinc 5 1) 3 := by decide +kernel
theorem d15_41 : dc c13_ 41 (.goto (-38)) 3 := by decide +kernel
theorem d15_44 : dc c13_ 44 (.iload 4) 2 := by decide +kernel
theorem d15_46 : dc c13_ 46 (.ireturn) 1 := by decide +kernel
theorem d16_0 : dc c14_ 0 (.iload_n 1) 1 := by decide +kernel
theorem d16_1 : dc c14_ 1 (.aload_n 0) 1 := by decide +kernel
theorem d16_2 : dc c14_ 2 (.arraylength) 1 := by decide +kernel
theorem d16_3 : dc c14_ 3 (.isub) 1 := by decide +kernel
theorem d16_4 : dc c14_ 4 (.bipush 31) 2 := by decide +kernel
theorem d16_6 : dc c14_ 6 (.iushr) 1 := by decide +kernel
theorem d16_7 : dc c14_ 7 (.i2b) 1 := by decide +kernel
theorem d16_8 : dc c14_ 8 (.ireturn) 1 := by decide +kernel
theorem d17_0 : dc c15_ 0 (.iload_n 0) 1 := by decide +kernel
theorem d17_1 : dc c15_ 1 (.istore_n 1) 1 := by decide +kernel
theorem d17_2 : dc c15_ 2 (.iload_n 1) 1 := by decide +kernel
theorem d17_3 : dc c15_ 3 (.bipush 48) 2 := by decide +kernel
theorem d17_5 : dc c15_ 5 (.if_icmp .lt 13) 3 := by decide +kernel
theorem d17_8 : dc c15_ 8 (.iload_n 1) 1 := by decide +kernel
theorem d17_9 : dc c15_ 9 (.bipush 57) 2 := by decide +kernel
theorem d17_11 : dc c15_ 11 (.if_icmp .gt 7) 3 := by decide +kernel
theorem d17_14 : dc c15_ 14 (.iconst 1) 1 := by decide +kernel
theorem d17_15 : dc c15_ 15 (.goto 4) 3 := by decide +kernel
theorem d17_18 : dc c15_ 18 (.iconst 0) 1 := by decide +kernel
theorem d17_19 : dc c15_ 19 (.istore_n 2) 1 := by decide +kernel
theorem d17_20 : dc c15_ 20 (.iload_n 1) 1 := by decide +kernel
theorem d17_21 : dc c15_ 21 (.bipush 32) 2 := by decide +kernel
theorem d17_23 : dc c15_ 23 (.ior) 1 := by decide +kernel
theorem d17_24 : dc c15_ 24 (.istore_n 3) 1 := by decide +kernel
theorem d17_25 : dc c15_ 25 (.iload_n 3) 1 := by decide +kernel
theorem d17_26 : dc c15_ 26 (.bipush 97) 2 := by decide +kernel
theorem d17_28 : dc c15_ 28 (.if_icmp .lt 13) 3 := by decide +kernel
theorem d17_31 : dc c15_ 31 (.iload_n 3) 1 := by decide +kernel
theorem d17_32 : dc c15_ 32 (.bipush 122) 2 := by decide +kernel
theorem d17_34 : dc c15_ 34 (.if_icmp .gt 7) 3 := by decide +kernel
theorem d17_37 : dc c15_ 37 (.iconst 1) 1 := by decide +kernel
theorem d17_38 : dc c15_ 38 (.goto 4) 3 := by decide +kernel
theorem d17_41 : dc c15_ 41 (.iconst 0) 1 := by decide +kernel
theorem d17_42 : dc c15_ 42 (.istore 4) 2 := by decide +kernel
theorem d17_44 : dc c15_ 44 (.iload_n 2) 1 := by decide +kernel
theorem d17_45 : dc c15_ 45 (.ifCond .ne 26) 3 := by decide +kernel
theorem d17_48 : dc c15_ 48 (.iload 4) 2 := by decide +kernel
theorem d17_50 : dc c15_ 50 (.ifCond .ne 21) 3 := by decide +kernel
theorem d17_53 : dc c15_ 53 (.iload_n 1) 1 := by decide +kernel
theorem d17_54 : dc c15_ 54 (.bipush 46) 2 := by decide +kernel
theorem d17_56 : dc c15_ 56 (.if_icmp .eq 15) 3 := by decide +kernel
theorem d17_59 : dc c15_ 59 (.iload_n 1) 1 := by decide +kernel
theorem d17_60 : dc c15_ 60 (.bipush 95) 2 := by decide +kernel
theorem d17_62 : dc c15_ 62 (.if_icmp .eq 9) 3 := by decide +kernel
theorem d17_65 : dc c15_ 65 (.iload_n 1) 1 := by decide +kernel
theorem d17_66 : dc c15_ 66 (.bipush 45) 2 := by decide +kernel
theorem d17_68 : dc c15_ 68 (.if_icmp .ne 7) 3 := by decide +kernel
theorem d17_71 : dc c15_ 71 (.iconst 1) 1 := by decide +kernel
theorem d17_72 : dc c15_ 72 (.goto 4) 3 := by decide +kernel
theorem d17_75 : dc c15_ 75 (.iconst 0) 1 := by decide +kernel
theorem d17_76 : dc c15_ 76 (.ireturn) 1 := by decide +kernel
theorem d18_0 : dc c16_ 0 (.iload_n 2) 1 := by decide +kernel
theorem d18_1 : dc c16_ 1 (.invokestatic 107) 3 := by decide +kernel
theorem d18_4 : dc c16_ 4 (.astore_n 3) 1 := by decide +kernel
theorem d18_5 : dc c16_ 5 (.iconst 0) 1 := by decide +kernel
theorem d18_6 : dc c16_ 6 (.istore 4) 2 := by decide +kernel
theorem d18_8 : dc c16_ 8 (.iload 4) 2 := by decide +kernel
theorem d18_10 : dc c16_ 10 (.iload_n 2) 1 := by decide +kernel
theorem d18_11 : dc c16_ 11 (.if_icmp .ge 21) 3 := by decide +kernel
theorem d18_14 : dc c16_ 14 (.aload_n 3) 1 := by decide +kernel
theorem d18_15 : dc c16_ 15 (.iload 4) 2 := by decide +kernel
theorem d18_17 : dc c16_ 17 (.aload_n 0) 1 := by decide +kernel
theorem d18_18 : dc c16_ 18 (.iload_n 1) 1 := by decide +kernel
theorem d18_19 : dc c16_ 19 (.caload) 1 := by decide +kernel
theorem d18_20 : dc c16_ 20 (.invokestatic 111) 3 := by decide +kernel
theorem d18_23 : dc c16_ 23 (.iinc 1 1) 3 := by decide +kernel
theorem d18_26 : dc c16_ 26 (.iinc 4 1) 3 := by decide +kernel
theorem d18_29 : dc c16_ 29 (.goto (-21)) 3 := by decide +kernel
theorem d18_32 : dc c16_ 32 (.aload_n 3) 1 := by decide +kernel
theorem d18_33 : dc c16_ 33 (.areturn) 1 := by decide +kernel
theorem d19_0 : dc c17_ 0 (.iload_n 0) 1 := by decide +kernel
theorem d19_1 : dc c17_ 1 (.invokestatic 11) 3 := by decide +kernel
theorem d19_4 : dc c17_ 4 (.newarray .byte) 2 := by decide +kernel
theorem d19_6 : dc c17_ 6 (.areturn) 1 := by decide +kernel
theorem d20_0 : dc c18_ 0 (.iload_n 0) 1 := by decide +kernel
theorem d20_1 : dc c18_ 1 (.ifCond .ge 11) 3 := by decide +kernel
theorem d20_12 : dc c18_ 12 (.iload_n 0) 1 := by decide +kernel
theorem d20_13 : dc c18_ 13 (.ldc 20) 2 := by decide +kernel
theorem d20_15 : dc c18_ 15 (.if_icmp .lt 40) 3 := by decide +kernel
theorem d20_55 : dc c18_ 55 (.iload_n 0) 1 := by decide +kernel
theorem d20_56 : dc c18_ 56 (.iconst 1) 1 := by decide +kernel
theorem d20_57 : dc c18_ 57 (.ishl) 1 := by decide +kernel
theorem d20_58 : dc c18_ 58 (.ireturn) 1 := by decide +kernel
theorem d21_0 : dc c19_ 0 (.getstatic 44) 3 := by decide +kernel
theorem d21_3 : dc c19_ 3 (.ifCond .ne 25) 3 := by decide +kernel
theorem d21_28 : dc c19_ 28 (.iload_n 1) 1 := by decide +kernel
theorem d21_29 : dc c19_ 29 (.iconst 1) 1 := by decide +kernel
theorem d21_30 : dc c19_ 30 (.ishl) 1 := by decide +kernel
theorem d21_31 : dc c19_ 31 (.istore_n 1) 1 := by decide +kernel
theorem d21_32 : dc c19_ 32 (.aload_n 0) 1 := by decide +kernel
theorem d21_33 : dc c19_ 33 (.iload_n 1) 1 := by decide +kernel
theorem d21_34 : dc c19_ 34 (.iinc 1 1) 3 := by decide +kernel
theorem d21_37 : dc c19_ 37 (.iload_n 2) 1 := by decide +kernel
theorem d21_38 : dc c19_ 38 (.getstatic 59) 3 := by decide +kernel
theorem d21_41 : dc c19_ 41 (.ishr) 1 := by decide +kernel
theorem d21_42 : dc c19_ 42 (.i2b) 1 := by decide +kernel
theorem d21_43 : dc c19_ 43 (.bastore) 1 := by decide +kernel
theorem d21_44 : dc c19_ 44 (.aload_n 0) 1 := by decide +kernel
theorem d21_45 : dc c19_ 45 (.iload_n 1) 1 := by decide +kernel
theorem d21_46 : dc c19_ 46 (.iload_n 2) 1 := by decide +kernel
theorem d21_47 : dc c19_ 47 (.getstatic 63) 3 := by decide +kernel
theorem d21_50 : dc c19_ 50 (.ishr) 1 := by decide +kernel
theorem d21_51 : dc c19_ 51 (.i2b) 1 := by decide +kernel
theorem d21_52 : dc c19_ 52 (.bastore) 1 := by decide +kernel
theorem d21_53 : dc c19_ 53 (.return_) 1 := by decide +kernel
theorem d22_0 : dc c20_ 0 (.getstatic 44) 3 := by decide +kernel
theorem d22_3 : dc c20_ 3 (.ifCond .ne 25) 3 := by decide +kernel
theorem d22_28 : dc c20_ 28 (.iload_n 1) 1 := by decide +kernel
theorem d22_29 : dc c20_ 29 (.iconst 1) 1 := by decide +kernel
theorem d22_30 : dc c20_ 30 (.ishl) 1 := by decide +kernel
theorem d22_31 : dc c20_ 31 (.istore_n 1) 1 := by decide +kernel
theorem d22_32 : dc c20_ 32 (.aload_n 0) 1 := by decide +kernel
theorem d22_33 : dc c20_ 33 (.iload_n 1) 1 := by decide +kernel
theorem d22_34 : dc c20_ 34 (.iinc 1 1) 3 := by decide +kernel
theorem d22_37 : dc c20_ 37 (.baload) 1 := by decide +kernel
theorem d22_38 : dc c20_ 38 (.sipush 255) 3 := by decide +kernel
theorem d22_41 : dc c20_ 41 (.iand) 1 := by decide +kernel
theorem d22_42 : dc c20_ 42 (.getstatic 59) 3 := by decide +kernel
theorem d22_45 : dc c20_ 45 (.ishl) 1 := by decide +kernel
theorem d22_46 : dc c20_ 46 (.aload_n 0) 1 := by decide +kernel
theorem d22_47 : dc c20_ 47 (.iload_n 1) 1 := by decide +kernel
theorem d22_48 : dc c20_ 48 (.baload) 1 := by decide +kernel
theorem d22_49 : dc c20_ 49 (.sipush 255) 3 := by decide +kernel
theorem d22_52 : dc c20_ 52 (.iand) 1 := by decide +kernel
theorem d22_53 : dc c20_ 53 (.getstatic 63) 3 := by decide +kernel
theorem d22_56 : dc c20_ 56 (.ishl) 1 := by decide +kernel
theorem d22_57 : dc c20_ 57 (.ior) 1 := by decide +kernel
theorem d22_58 : dc c20_ 58 (.i2c) 1 := by decide +kernel
theorem d22_59 : dc c20_ 59 (.ireturn) 1 := by decide +kernel
theorem d23_0 : dc c21_ 0 (.iload_n 1) 1 := by decide +kernel
theorem d23_1 : dc c21_ 1 (.aload_n 0) 1 := by decide +kernel
theorem d23_2 : dc c21_ 2 (.invokestatic 67) 3 := by decide +kernel
theorem d23_5 : dc c21_ 5 (.aload_n 0) 1 := by decide +kernel
theorem d23_6 : dc c21_ 6 (.iload_n 1) 1 := by decide +kernel
theorem d23_7 : dc c21_ 7 (.invokestatic 71) 3 := by decide +kernel
theorem d23_10 : dc c21_ 10 (.ireturn) 1 := by decide +kernel
theorem d24_0 : dc c22_ 0 (.iload_n 0) 1 := by decide +kernel
theorem d24_1 : dc c22_ 1 (.aload_n 1) 1 := by decide +kernel
theorem d24_2 : dc c22_ 2 (.invokestatic 48) 3 := by decide +kernel
theorem d24_5 : dc c22_ 5 (.invokestatic 414) 3 := by decide +kernel
theorem d24_8 : dc c22_ 8 (.return_) 1 := by decide +kernel
theorem d25_0 : dc c23_ 0 (.aload_n 0) 1 := by decide +kernel
theorem d25_1 : dc c23_ 1 (.arraylength) 1 := by decide +kernel
theorem d25_2 : dc c23_ 2 (.iconst 1) 1 := by decide +kernel
theorem d25_3 : dc c23_ 3 (.ishr) 1 := by decide +kernel
theorem d25_4 : dc c23_ 4 (.ireturn) 1 := by decide +kernel
theorem pd0 : parseMethodDescriptor "(IZ)C" = some ⟨[.int, .boolean], some .char⟩ := by decide +kernel
theorem pd1 : parseMethodDescriptor "([CIILjava/lang/Void;)V" = some ⟨[(.array .char), .int, .int, (.object "java/lang/Void")], none⟩ := by decide +kernel
theorem pd2 : parseMethodDescriptor "([C)V" = some ⟨[(.array .char)], none⟩ := by decide +kernel
theorem pd3 : parseMethodDescriptor "()Z" = some ⟨[], some .boolean⟩ := by decide +kernel
theorem pd4 : parseMethodDescriptor "(Ljava/lang/String;)Z" = some ⟨[(.object "java/lang/String")], some .boolean⟩ := by decide +kernel
theorem pd5 : parseMethodDescriptor "([CI[BII)I" = some ⟨[(.array .char), .int, (.array .byte), .int, .int], some .int⟩ := by decide +kernel
theorem pd6 : parseMethodDescriptor "([CII)[B" = some ⟨[(.array .char), .int, .int], some (.array .byte)⟩ := by decide +kernel
theorem pd7 : parseMethodDescriptor "([BI)B" = some ⟨[(.array .byte), .int], some .byte⟩ := by decide +kernel
theorem pd8 : parseMethodDescriptor "()B" = some ⟨[], some .byte⟩ := by decide +kernel
theorem pd9 : parseMethodDescriptor "(IILjava/util/function/BiFunction;)I" = some ⟨[.int, .int, (.object "java/util/function/BiFunction")], some .int⟩ := by decide +kernel
theorem pd10 : parseMethodDescriptor "(II)V" = some ⟨[.int, .int], none⟩ := by decide +kernel
theorem pd11 : parseMethodDescriptor "([BI)C" = some ⟨[(.array .byte), .int], some .char⟩ := by decide +kernel
theorem pd12 : parseMethodDescriptor "(I)I" = some ⟨[.int], some .int⟩ := by decide +kernel
theorem pd13 : parseMethodDescriptor "(I)[B" = some ⟨[.int], some (.array .byte)⟩ := by decide +kernel
theorem pd14 : parseMethodDescriptor "([BII)V" = some ⟨[(.array .byte), .int, .int], none⟩ := by decide +kernel
theorem pd15 : parseMethodDescriptor "([B)I" = some ⟨[(.array .byte)], some .int⟩ := by decide +kernel
theorem pd16 : parseMethodDescriptor "(I[B)V" = some ⟨[.int, (.array .byte)], none⟩ := by decide +kernel
theorem pd17 : parseMethodDescriptor "()I" = some ⟨[], some .int⟩ := by decide +kernel
theorem pd18 : parseMethodDescriptor "(I)C" = some ⟨[.int], some .char⟩ := by decide +kernel
theorem pd19 : parseMethodDescriptor "(C)Z" = some ⟨[.char], some .boolean⟩ := by decide +kernel
theorem pn0 : plainName "com/example/revision/revision/core/RecordKeyIsValidNamePinLaw" = true := by first | (simp [plainName, overriddenIn]; done) | decide +kernel
theorem pn1 : plainName "java/lang/String" = true := by first | (simp [plainName, overriddenIn]; done) | decide +kernel
theorem pn2 : plainName "com/example/revision/revision/core/RecordKey" = true := by first | (simp [plainName, overriddenIn]; done) | decide +kernel
theorem pn3 : plainName "java/lang/StringUTF16" = true := by first | (simp [plainName, overriddenIn]; done) | decide +kernel
theorem pn4 : plainName "jdk/internal/util/Preconditions" = true := by first | (simp [plainName, overriddenIn]; done) | decide +kernel
theorem pn5 : plainName "java/lang/StringLatin1" = true := by first | (simp [plainName, overriddenIn]; done) | decide +kernel
theorem own_tst {p : Program} {l : Launch} {e : Env} {R : Room} {s : State} {m : MethodId} {args : Array Value} {below : List Frame} {meth : Method} {c : Code} {T : State} {locs : List Loc} {cells slots : Nat} {Z : State} {h hb0 : Heap} {ws : List Addr} {I : Heap → Prop} {P : State → Outcome → Prop} (W0 : Wk p l e R s m args below meth c "com/example/revision/revision/core/RecordKey" Z hb0 ws I T h locs cells slots) (hy : c.code = prog_6_method_2_code) {s0 s1 s2 : Slot} {ch : Int32} (K : Gl p.tables e below P T m 104 #[s0, s1, s2, .val (.int ch)] [.int (own_okc ch)]) : Gl p.tables e below P T m 45 #[s0, s1, s2, .val (.int ch)] [] := by
  refine o_merge (α := Int32) (fun v => v = own_okc ch) 104 (fun v => #[s0, s1, s2, .val (.int ch)]) (fun v => [(.int v)]) (fun M1 => ?_) (fun v hm2 => ?_)
  · refine o_iloadN W0 46 (hb hy d5_45) rfl rfl <| o_bipush W0 (v := 65) 48 (hb hy d5_46) (by decide) rfl ?_
    by_cases he3 : ch < (65 : Int32)
    · refine o_icmpY W0 57 (hb hy d5_48) (XT.ii_lt_t he3) (by decide) rfl <| o_iloadN W0 58 (hb hy d5_57) rfl rfl <| o_bipush W0 (v := 97) 60 (hb hy d5_58) (by decide) rfl ?_
      by_cases he4 : ch < (97 : Int32)
      · refine o_icmpY W0 69 (hb hy d5_60) (XT.ii_lt_t he4) (by decide) rfl <| o_iloadN W0 70 (hb hy d5_69) rfl rfl <| o_bipush W0 (v := 48) 72 (hb hy d5_70) (by decide) rfl ?_
        by_cases he5 : ch < (48 : Int32)
        · refine o_icmpY W0 81 (hb hy d5_72) (XT.ii_lt_t he5) (by decide) rfl <| o_iloadN W0 82 (hb hy d5_81) rfl rfl <| o_bipush W0 (v := 46) 84 (hb hy d5_82) (by decide) rfl ?_
          by_cases he6 : ch = (46 : Int32)
          · refine o_icmpY W0 99 (hb hy d5_84) (XT.ii_eq_t he6) (by decide) rfl <| o_iconst W0 (v := 1) 100 (hb hy d5_99) rfl rfl <| o_goto W0 104 (hb hy d5_100) (by decide) rfl ?_
            exact M1 (1 : Int32) (by simp [own_okc, own_ok2, own_ok3, own_ok4, he3, he4, he5, he6])
          · refine o_icmpN W0 87 (hb hy d5_84) (XT.ii_eq_f he6) rfl <| o_iloadN W0 88 (hb hy d5_87) rfl rfl <| o_bipush W0 (v := 95) 90 (hb hy d5_88) (by decide) rfl ?_
            by_cases he7 : ch = (95 : Int32)
            · refine o_icmpY W0 99 (hb hy d5_90) (XT.ii_eq_t he7) (by decide) rfl <| o_iconst W0 (v := 1) 100 (hb hy d5_99) rfl rfl <| o_goto W0 104 (hb hy d5_100) (by decide) rfl ?_
              exact M1 (1 : Int32) (by simp [own_okc, own_ok2, own_ok3, own_ok4, he3, he4, he5, he6, he7])
            · refine o_icmpN W0 93 (hb hy d5_90) (XT.ii_eq_f he7) rfl <| o_iloadN W0 94 (hb hy d5_93) rfl rfl <| o_bipush W0 (v := 45) 96 (hb hy d5_94) (by decide) rfl ?_
              rcases (Classical.em (ch = (45 : Int32))).symm with he8 | he8
              · refine o_icmpY W0 103 (hb hy d5_96) (XT.ii_ne_t he8) (by decide) rfl <| o_iconst W0 (v := 0) 104 (hb hy d5_103) rfl rfl ?_
                exact M1 (0 : Int32) (by simp [own_okc, own_ok2, own_ok3, own_ok4, he3, he4, he5, he6, he7, he8])
              · refine o_icmpN W0 99 (hb hy d5_96) (XT.ii_ne_f he8) rfl <| o_iconst W0 (v := 1) 100 (hb hy d5_99) rfl rfl <| o_goto W0 104 (hb hy d5_100) (by decide) rfl ?_
                exact M1 (1 : Int32) (by simp [own_okc, own_ok2, own_ok3, own_ok4, he3, he4, he5, he6, he7, he8])
        · refine o_icmpN W0 75 (hb hy d5_72) (XT.ii_lt_f he5) rfl <| o_iloadN W0 76 (hb hy d5_75) rfl rfl <| o_bipush W0 (v := 57) 78 (hb hy d5_76) (by decide) rfl ?_
          rcases (Classical.em ((57 : Int32) < ch)).symm with he9 | he9
          · refine o_icmpY W0 99 (hb hy d5_78) (XT.ii_le_t he9) (by decide) rfl <| o_iconst W0 (v := 1) 100 (hb hy d5_99) rfl rfl <| o_goto W0 104 (hb hy d5_100) (by decide) rfl ?_
            exact M1 (1 : Int32) (by simp [own_okc, own_ok2, own_ok3, own_ok4, he3, he4, he5, he9])
          · refine o_icmpN W0 81 (hb hy d5_78) (XT.ii_le_f he9) rfl <| o_iloadN W0 82 (hb hy d5_81) rfl rfl <| o_bipush W0 (v := 46) 84 (hb hy d5_82) (by decide) rfl ?_
            by_cases he10 : ch = (46 : Int32)
            · refine o_icmpY W0 99 (hb hy d5_84) (XT.ii_eq_t he10) (by decide) rfl <| o_iconst W0 (v := 1) 100 (hb hy d5_99) rfl rfl <| o_goto W0 104 (hb hy d5_100) (by decide) rfl ?_
              exact M1 (1 : Int32) (by simp [own_okc, own_ok2, own_ok3, own_ok4, he3, he4, he5, he9, he10])
            · refine o_icmpN W0 87 (hb hy d5_84) (XT.ii_eq_f he10) rfl <| o_iloadN W0 88 (hb hy d5_87) rfl rfl <| o_bipush W0 (v := 95) 90 (hb hy d5_88) (by decide) rfl ?_
              by_cases he11 : ch = (95 : Int32)
              · refine o_icmpY W0 99 (hb hy d5_90) (XT.ii_eq_t he11) (by decide) rfl <| o_iconst W0 (v := 1) 100 (hb hy d5_99) rfl rfl <| o_goto W0 104 (hb hy d5_100) (by decide) rfl ?_
                exact M1 (1 : Int32) (by simp [own_okc, own_ok2, own_ok3, own_ok4, he3, he4, he5, he9, he10, he11])
              · refine o_icmpN W0 93 (hb hy d5_90) (XT.ii_eq_f he11) rfl <| o_iloadN W0 94 (hb hy d5_93) rfl rfl <| o_bipush W0 (v := 45) 96 (hb hy d5_94) (by decide) rfl ?_
                rcases (Classical.em (ch = (45 : Int32))).symm with he12 | he12
                · refine o_icmpY W0 103 (hb hy d5_96) (XT.ii_ne_t he12) (by decide) rfl <| o_iconst W0 (v := 0) 104 (hb hy d5_103) rfl rfl ?_
                  exact M1 (0 : Int32) (by simp [own_okc, own_ok2, own_ok3, own_ok4, he3, he4, he5, he9, he10, he11, he12])
                · refine o_icmpN W0 99 (hb hy d5_96) (XT.ii_ne_f he12) rfl <| o_iconst W0 (v := 1) 100 (hb hy d5_99) rfl rfl <| o_goto W0 104 (hb hy d5_100) (by decide) rfl ?_
                  exact M1 (1 : Int32) (by simp [own_okc, own_ok2, own_ok3, own_ok4, he3, he4, he5, he9, he10, he11, he12])
      · refine o_icmpN W0 63 (hb hy d5_60) (XT.ii_lt_f he4) rfl <| o_iloadN W0 64 (hb hy d5_63) rfl rfl <| o_bipush W0 (v := 122) 66 (hb hy d5_64) (by decide) rfl ?_
        rcases (Classical.em ((122 : Int32) < ch)).symm with he13 | he13
        · refine o_icmpY W0 99 (hb hy d5_66) (XT.ii_le_t he13) (by decide) rfl <| o_iconst W0 (v := 1) 100 (hb hy d5_99) rfl rfl <| o_goto W0 104 (hb hy d5_100) (by decide) rfl ?_
          exact M1 (1 : Int32) (by simp [own_okc, own_ok2, own_ok3, own_ok4, he3, he4, he13])
        · refine o_icmpN W0 69 (hb hy d5_66) (XT.ii_le_f he13) rfl <| o_iloadN W0 70 (hb hy d5_69) rfl rfl <| o_bipush W0 (v := 48) 72 (hb hy d5_70) (by decide) rfl ?_
          by_cases he14 : ch < (48 : Int32)
          · refine o_icmpY W0 81 (hb hy d5_72) (XT.ii_lt_t he14) (by decide) rfl <| o_iloadN W0 82 (hb hy d5_81) rfl rfl <| o_bipush W0 (v := 46) 84 (hb hy d5_82) (by decide) rfl ?_
            by_cases he15 : ch = (46 : Int32)
            · refine o_icmpY W0 99 (hb hy d5_84) (XT.ii_eq_t he15) (by decide) rfl <| o_iconst W0 (v := 1) 100 (hb hy d5_99) rfl rfl <| o_goto W0 104 (hb hy d5_100) (by decide) rfl ?_
              exact M1 (1 : Int32) (by simp [own_okc, own_ok2, own_ok3, own_ok4, he3, he4, he13, he14, he15])
            · refine o_icmpN W0 87 (hb hy d5_84) (XT.ii_eq_f he15) rfl <| o_iloadN W0 88 (hb hy d5_87) rfl rfl <| o_bipush W0 (v := 95) 90 (hb hy d5_88) (by decide) rfl ?_
              by_cases he16 : ch = (95 : Int32)
              · refine o_icmpY W0 99 (hb hy d5_90) (XT.ii_eq_t he16) (by decide) rfl <| o_iconst W0 (v := 1) 100 (hb hy d5_99) rfl rfl <| o_goto W0 104 (hb hy d5_100) (by decide) rfl ?_
                exact M1 (1 : Int32) (by simp [own_okc, own_ok2, own_ok3, own_ok4, he3, he4, he13, he14, he15, he16])
              · refine o_icmpN W0 93 (hb hy d5_90) (XT.ii_eq_f he16) rfl <| o_iloadN W0 94 (hb hy d5_93) rfl rfl <| o_bipush W0 (v := 45) 96 (hb hy d5_94) (by decide) rfl ?_
                rcases (Classical.em (ch = (45 : Int32))).symm with he17 | he17
                · refine o_icmpY W0 103 (hb hy d5_96) (XT.ii_ne_t he17) (by decide) rfl <| o_iconst W0 (v := 0) 104 (hb hy d5_103) rfl rfl ?_
                  exact M1 (0 : Int32) (by simp [own_okc, own_ok2, own_ok3, own_ok4, he3, he4, he13, he14, he15, he16, he17])
                · refine o_icmpN W0 99 (hb hy d5_96) (XT.ii_ne_f he17) rfl <| o_iconst W0 (v := 1) 100 (hb hy d5_99) rfl rfl <| o_goto W0 104 (hb hy d5_100) (by decide) rfl ?_
                  exact M1 (1 : Int32) (by simp [own_okc, own_ok2, own_ok3, own_ok4, he3, he4, he13, he14, he15, he16, he17])
          · refine o_icmpN W0 75 (hb hy d5_72) (XT.ii_lt_f he14) rfl <| o_iloadN W0 76 (hb hy d5_75) rfl rfl <| o_bipush W0 (v := 57) 78 (hb hy d5_76) (by decide) rfl ?_
            rcases (Classical.em ((57 : Int32) < ch)).symm with he18 | he18
            · refine o_icmpY W0 99 (hb hy d5_78) (XT.ii_le_t he18) (by decide) rfl <| o_iconst W0 (v := 1) 100 (hb hy d5_99) rfl rfl <| o_goto W0 104 (hb hy d5_100) (by decide) rfl ?_
              exact M1 (1 : Int32) (by simp [own_okc, own_ok2, own_ok3, own_ok4, he3, he4, he13, he14, he18])
            · refine o_icmpN W0 81 (hb hy d5_78) (XT.ii_le_f he18) rfl <| o_iloadN W0 82 (hb hy d5_81) rfl rfl <| o_bipush W0 (v := 46) 84 (hb hy d5_82) (by decide) rfl ?_
              by_cases he19 : ch = (46 : Int32)
              · refine o_icmpY W0 99 (hb hy d5_84) (XT.ii_eq_t he19) (by decide) rfl <| o_iconst W0 (v := 1) 100 (hb hy d5_99) rfl rfl <| o_goto W0 104 (hb hy d5_100) (by decide) rfl ?_
                exact M1 (1 : Int32) (by simp [own_okc, own_ok2, own_ok3, own_ok4, he3, he4, he13, he14, he18, he19])
              · refine o_icmpN W0 87 (hb hy d5_84) (XT.ii_eq_f he19) rfl <| o_iloadN W0 88 (hb hy d5_87) rfl rfl <| o_bipush W0 (v := 95) 90 (hb hy d5_88) (by decide) rfl ?_
                by_cases he20 : ch = (95 : Int32)
                · refine o_icmpY W0 99 (hb hy d5_90) (XT.ii_eq_t he20) (by decide) rfl <| o_iconst W0 (v := 1) 100 (hb hy d5_99) rfl rfl <| o_goto W0 104 (hb hy d5_100) (by decide) rfl ?_
                  exact M1 (1 : Int32) (by simp [own_okc, own_ok2, own_ok3, own_ok4, he3, he4, he13, he14, he18, he19, he20])
                · refine o_icmpN W0 93 (hb hy d5_90) (XT.ii_eq_f he20) rfl <| o_iloadN W0 94 (hb hy d5_93) rfl rfl <| o_bipush W0 (v := 45) 96 (hb hy d5_94) (by decide) rfl ?_
                  rcases (Classical.em (ch = (45 : Int32))).symm with he21 | he21
                  · refine o_icmpY W0 103 (hb hy d5_96) (XT.ii_ne_t he21) (by decide) rfl <| o_iconst W0 (v := 0) 104 (hb hy d5_103) rfl rfl ?_
                    exact M1 (0 : Int32) (by simp [own_okc, own_ok2, own_ok3, own_ok4, he3, he4, he13, he14, he18, he19, he20, he21])
                  · refine o_icmpN W0 99 (hb hy d5_96) (XT.ii_ne_f he21) rfl <| o_iconst W0 (v := 1) 100 (hb hy d5_99) rfl rfl <| o_goto W0 104 (hb hy d5_100) (by decide) rfl ?_
                    exact M1 (1 : Int32) (by simp [own_okc, own_ok2, own_ok3, own_ok4, he3, he4, he13, he14, he18, he19, he20, he21])
    · refine o_icmpN W0 51 (hb hy d5_48) (XT.ii_lt_f he3) rfl <| o_iloadN W0 52 (hb hy d5_51) rfl rfl <| o_bipush W0 (v := 90) 54 (hb hy d5_52) (by decide) rfl ?_
      rcases (Classical.em ((90 : Int32) < ch)).symm with he22 | he22
      · refine o_icmpY W0 99 (hb hy d5_54) (XT.ii_le_t he22) (by decide) rfl <| o_iconst W0 (v := 1) 100 (hb hy d5_99) rfl rfl <| o_goto W0 104 (hb hy d5_100) (by decide) rfl ?_
        exact M1 (1 : Int32) (by simp [own_okc, own_ok2, own_ok3, own_ok4, he3, he22])
      · refine o_icmpN W0 57 (hb hy d5_54) (XT.ii_le_f he22) rfl <| o_iloadN W0 58 (hb hy d5_57) rfl rfl <| o_bipush W0 (v := 97) 60 (hb hy d5_58) (by decide) rfl ?_
        by_cases he23 : ch < (97 : Int32)
        · refine o_icmpY W0 69 (hb hy d5_60) (XT.ii_lt_t he23) (by decide) rfl <| o_iloadN W0 70 (hb hy d5_69) rfl rfl <| o_bipush W0 (v := 48) 72 (hb hy d5_70) (by decide) rfl ?_
          by_cases he24 : ch < (48 : Int32)
          · refine o_icmpY W0 81 (hb hy d5_72) (XT.ii_lt_t he24) (by decide) rfl <| o_iloadN W0 82 (hb hy d5_81) rfl rfl <| o_bipush W0 (v := 46) 84 (hb hy d5_82) (by decide) rfl ?_
            by_cases he25 : ch = (46 : Int32)
            · refine o_icmpY W0 99 (hb hy d5_84) (XT.ii_eq_t he25) (by decide) rfl <| o_iconst W0 (v := 1) 100 (hb hy d5_99) rfl rfl <| o_goto W0 104 (hb hy d5_100) (by decide) rfl ?_
              exact M1 (1 : Int32) (by simp [own_okc, own_ok2, own_ok3, own_ok4, he3, he22, he23, he24, he25])
            · refine o_icmpN W0 87 (hb hy d5_84) (XT.ii_eq_f he25) rfl <| o_iloadN W0 88 (hb hy d5_87) rfl rfl <| o_bipush W0 (v := 95) 90 (hb hy d5_88) (by decide) rfl ?_
              by_cases he26 : ch = (95 : Int32)
              · refine o_icmpY W0 99 (hb hy d5_90) (XT.ii_eq_t he26) (by decide) rfl <| o_iconst W0 (v := 1) 100 (hb hy d5_99) rfl rfl <| o_goto W0 104 (hb hy d5_100) (by decide) rfl ?_
                exact M1 (1 : Int32) (by simp [own_okc, own_ok2, own_ok3, own_ok4, he3, he22, he23, he24, he25, he26])
              · refine o_icmpN W0 93 (hb hy d5_90) (XT.ii_eq_f he26) rfl <| o_iloadN W0 94 (hb hy d5_93) rfl rfl <| o_bipush W0 (v := 45) 96 (hb hy d5_94) (by decide) rfl ?_
                rcases (Classical.em (ch = (45 : Int32))).symm with he27 | he27
                · refine o_icmpY W0 103 (hb hy d5_96) (XT.ii_ne_t he27) (by decide) rfl <| o_iconst W0 (v := 0) 104 (hb hy d5_103) rfl rfl ?_
                  exact M1 (0 : Int32) (by simp [own_okc, own_ok2, own_ok3, own_ok4, he3, he22, he23, he24, he25, he26, he27])
                · refine o_icmpN W0 99 (hb hy d5_96) (XT.ii_ne_f he27) rfl <| o_iconst W0 (v := 1) 100 (hb hy d5_99) rfl rfl <| o_goto W0 104 (hb hy d5_100) (by decide) rfl ?_
                  exact M1 (1 : Int32) (by simp [own_okc, own_ok2, own_ok3, own_ok4, he3, he22, he23, he24, he25, he26, he27])
          · refine o_icmpN W0 75 (hb hy d5_72) (XT.ii_lt_f he24) rfl <| o_iloadN W0 76 (hb hy d5_75) rfl rfl <| o_bipush W0 (v := 57) 78 (hb hy d5_76) (by decide) rfl ?_
            rcases (Classical.em ((57 : Int32) < ch)).symm with he28 | he28
            · refine o_icmpY W0 99 (hb hy d5_78) (XT.ii_le_t he28) (by decide) rfl <| o_iconst W0 (v := 1) 100 (hb hy d5_99) rfl rfl <| o_goto W0 104 (hb hy d5_100) (by decide) rfl ?_
              exact M1 (1 : Int32) (by simp [own_okc, own_ok2, own_ok3, own_ok4, he3, he22, he23, he24, he28])
            · refine o_icmpN W0 81 (hb hy d5_78) (XT.ii_le_f he28) rfl <| o_iloadN W0 82 (hb hy d5_81) rfl rfl <| o_bipush W0 (v := 46) 84 (hb hy d5_82) (by decide) rfl ?_
              by_cases he29 : ch = (46 : Int32)
              · refine o_icmpY W0 99 (hb hy d5_84) (XT.ii_eq_t he29) (by decide) rfl <| o_iconst W0 (v := 1) 100 (hb hy d5_99) rfl rfl <| o_goto W0 104 (hb hy d5_100) (by decide) rfl ?_
                exact M1 (1 : Int32) (by simp [own_okc, own_ok2, own_ok3, own_ok4, he3, he22, he23, he24, he28, he29])
              · refine o_icmpN W0 87 (hb hy d5_84) (XT.ii_eq_f he29) rfl <| o_iloadN W0 88 (hb hy d5_87) rfl rfl <| o_bipush W0 (v := 95) 90 (hb hy d5_88) (by decide) rfl ?_
                by_cases he30 : ch = (95 : Int32)
                · refine o_icmpY W0 99 (hb hy d5_90) (XT.ii_eq_t he30) (by decide) rfl <| o_iconst W0 (v := 1) 100 (hb hy d5_99) rfl rfl <| o_goto W0 104 (hb hy d5_100) (by decide) rfl ?_
                  exact M1 (1 : Int32) (by simp [own_okc, own_ok2, own_ok3, own_ok4, he3, he22, he23, he24, he28, he29, he30])
                · refine o_icmpN W0 93 (hb hy d5_90) (XT.ii_eq_f he30) rfl <| o_iloadN W0 94 (hb hy d5_93) rfl rfl <| o_bipush W0 (v := 45) 96 (hb hy d5_94) (by decide) rfl ?_
                  rcases (Classical.em (ch = (45 : Int32))).symm with he31 | he31
                  · refine o_icmpY W0 103 (hb hy d5_96) (XT.ii_ne_t he31) (by decide) rfl <| o_iconst W0 (v := 0) 104 (hb hy d5_103) rfl rfl ?_
                    exact M1 (0 : Int32) (by simp [own_okc, own_ok2, own_ok3, own_ok4, he3, he22, he23, he24, he28, he29, he30, he31])
                  · refine o_icmpN W0 99 (hb hy d5_96) (XT.ii_ne_f he31) rfl <| o_iconst W0 (v := 1) 100 (hb hy d5_99) rfl rfl <| o_goto W0 104 (hb hy d5_100) (by decide) rfl ?_
                    exact M1 (1 : Int32) (by simp [own_okc, own_ok2, own_ok3, own_ok4, he3, he22, he23, he24, he28, he29, he30, he31])
        · refine o_icmpN W0 63 (hb hy d5_60) (XT.ii_lt_f he23) rfl <| o_iloadN W0 64 (hb hy d5_63) rfl rfl <| o_bipush W0 (v := 122) 66 (hb hy d5_64) (by decide) rfl ?_
          rcases (Classical.em ((122 : Int32) < ch)).symm with he32 | he32
          · refine o_icmpY W0 99 (hb hy d5_66) (XT.ii_le_t he32) (by decide) rfl <| o_iconst W0 (v := 1) 100 (hb hy d5_99) rfl rfl <| o_goto W0 104 (hb hy d5_100) (by decide) rfl ?_
            exact M1 (1 : Int32) (by simp [own_okc, own_ok2, own_ok3, own_ok4, he3, he22, he23, he32])
          · refine o_icmpN W0 69 (hb hy d5_66) (XT.ii_le_f he32) rfl <| o_iloadN W0 70 (hb hy d5_69) rfl rfl <| o_bipush W0 (v := 48) 72 (hb hy d5_70) (by decide) rfl ?_
            by_cases he33 : ch < (48 : Int32)
            · refine o_icmpY W0 81 (hb hy d5_72) (XT.ii_lt_t he33) (by decide) rfl <| o_iloadN W0 82 (hb hy d5_81) rfl rfl <| o_bipush W0 (v := 46) 84 (hb hy d5_82) (by decide) rfl ?_
              by_cases he34 : ch = (46 : Int32)
              · refine o_icmpY W0 99 (hb hy d5_84) (XT.ii_eq_t he34) (by decide) rfl <| o_iconst W0 (v := 1) 100 (hb hy d5_99) rfl rfl <| o_goto W0 104 (hb hy d5_100) (by decide) rfl ?_
                exact M1 (1 : Int32) (by simp [own_okc, own_ok2, own_ok3, own_ok4, he3, he22, he23, he32, he33, he34])
              · refine o_icmpN W0 87 (hb hy d5_84) (XT.ii_eq_f he34) rfl <| o_iloadN W0 88 (hb hy d5_87) rfl rfl <| o_bipush W0 (v := 95) 90 (hb hy d5_88) (by decide) rfl ?_
                by_cases he35 : ch = (95 : Int32)
                · refine o_icmpY W0 99 (hb hy d5_90) (XT.ii_eq_t he35) (by decide) rfl <| o_iconst W0 (v := 1) 100 (hb hy d5_99) rfl rfl <| o_goto W0 104 (hb hy d5_100) (by decide) rfl ?_
                  exact M1 (1 : Int32) (by simp [own_okc, own_ok2, own_ok3, own_ok4, he3, he22, he23, he32, he33, he34, he35])
                · refine o_icmpN W0 93 (hb hy d5_90) (XT.ii_eq_f he35) rfl <| o_iloadN W0 94 (hb hy d5_93) rfl rfl <| o_bipush W0 (v := 45) 96 (hb hy d5_94) (by decide) rfl ?_
                  rcases (Classical.em (ch = (45 : Int32))).symm with he36 | he36
                  · refine o_icmpY W0 103 (hb hy d5_96) (XT.ii_ne_t he36) (by decide) rfl <| o_iconst W0 (v := 0) 104 (hb hy d5_103) rfl rfl ?_
                    exact M1 (0 : Int32) (by simp [own_okc, own_ok2, own_ok3, own_ok4, he3, he22, he23, he32, he33, he34, he35, he36])
                  · refine o_icmpN W0 99 (hb hy d5_96) (XT.ii_ne_f he36) rfl <| o_iconst W0 (v := 1) 100 (hb hy d5_99) rfl rfl <| o_goto W0 104 (hb hy d5_100) (by decide) rfl ?_
                    exact M1 (1 : Int32) (by simp [own_okc, own_ok2, own_ok3, own_ok4, he3, he22, he23, he32, he33, he34, he35, he36])
            · refine o_icmpN W0 75 (hb hy d5_72) (XT.ii_lt_f he33) rfl <| o_iloadN W0 76 (hb hy d5_75) rfl rfl <| o_bipush W0 (v := 57) 78 (hb hy d5_76) (by decide) rfl ?_
              rcases (Classical.em ((57 : Int32) < ch)).symm with he37 | he37
              · refine o_icmpY W0 99 (hb hy d5_78) (XT.ii_le_t he37) (by decide) rfl <| o_iconst W0 (v := 1) 100 (hb hy d5_99) rfl rfl <| o_goto W0 104 (hb hy d5_100) (by decide) rfl ?_
                exact M1 (1 : Int32) (by simp [own_okc, own_ok2, own_ok3, own_ok4, he3, he22, he23, he32, he33, he37])
              · refine o_icmpN W0 81 (hb hy d5_78) (XT.ii_le_f he37) rfl <| o_iloadN W0 82 (hb hy d5_81) rfl rfl <| o_bipush W0 (v := 46) 84 (hb hy d5_82) (by decide) rfl ?_
                by_cases he38 : ch = (46 : Int32)
                · refine o_icmpY W0 99 (hb hy d5_84) (XT.ii_eq_t he38) (by decide) rfl <| o_iconst W0 (v := 1) 100 (hb hy d5_99) rfl rfl <| o_goto W0 104 (hb hy d5_100) (by decide) rfl ?_
                  exact M1 (1 : Int32) (by simp [own_okc, own_ok2, own_ok3, own_ok4, he3, he22, he23, he32, he33, he37, he38])
                · refine o_icmpN W0 87 (hb hy d5_84) (XT.ii_eq_f he38) rfl <| o_iloadN W0 88 (hb hy d5_87) rfl rfl <| o_bipush W0 (v := 95) 90 (hb hy d5_88) (by decide) rfl ?_
                  by_cases he39 : ch = (95 : Int32)
                  · refine o_icmpY W0 99 (hb hy d5_90) (XT.ii_eq_t he39) (by decide) rfl <| o_iconst W0 (v := 1) 100 (hb hy d5_99) rfl rfl <| o_goto W0 104 (hb hy d5_100) (by decide) rfl ?_
                    exact M1 (1 : Int32) (by simp [own_okc, own_ok2, own_ok3, own_ok4, he3, he22, he23, he32, he33, he37, he38, he39])
                  · refine o_icmpN W0 93 (hb hy d5_90) (XT.ii_eq_f he39) rfl <| o_iloadN W0 94 (hb hy d5_93) rfl rfl <| o_bipush W0 (v := 45) 96 (hb hy d5_94) (by decide) rfl ?_
                    rcases (Classical.em (ch = (45 : Int32))).symm with he40 | he40
                    · refine o_icmpY W0 103 (hb hy d5_96) (XT.ii_ne_t he40) (by decide) rfl <| o_iconst W0 (v := 0) 104 (hb hy d5_103) rfl rfl ?_
                      exact M1 (0 : Int32) (by simp [own_okc, own_ok2, own_ok3, own_ok4, he3, he22, he23, he32, he33, he37, he38, he39, he40])
                    · refine o_icmpN W0 99 (hb hy d5_96) (XT.ii_ne_f he40) rfl <| o_iconst W0 (v := 1) 100 (hb hy d5_99) rfl rfl <| o_goto W0 104 (hb hy d5_100) (by decide) rfl ?_
                      exact M1 (1 : Int32) (by simp [own_okc, own_ok2, own_ok3, own_ok4, he3, he22, he23, he32, he33, he37, he38, he39, he40])
  obtain ⟨ov, hqhm2⟩ : ∃ z, z = v := ⟨_, rfl⟩
  subst hqhm2
  have hm2 : ov = own_okc ch := hm2
  show Gl _ _ _ _ _ _ _ #[s0, s1, s2, .val (.int ch)] [(.int ov)]
  subst hm2
  exact K
theorem rm1 (l : Launch) {Z a0} (hw : HW Z a0) (x1 : Int32) (h0 : Heap) (O0 : Old Z Z.heap.size h0) (hc1 : own_c x1) :
    CtrN l Z mn3 method_3_code 5 (some .boolean) [] (⟨0, 0, 0, 0⟩ : Room) #[(.int x1)] h0 [] (fun v h => v = some (.int (own_okc x1))) := by
  refine CtrN.intro (L0 := #[vi x1, un, un, un, un]) (plainFor_of_name pn0) O0 (own_entry rfl) ?_
  intro p e s m below meth c T0 hy hml hret hlk hnm W0
  refine o_iloadN W0 1 (hb hy d17_0) rfl rfl <| o_istoreN W0 (L' := #[vi x1, vi x1, un, un, un]) 2 (hb hy d17_1) rfl rfl ?_
  refine o_merge (α := Int32) (fun v => v = own_dg x1) 19 (fun v => #[.val (.int x1), .val (.int x1), .unset, .unset, .unset]) (fun v => [(.int v)]) (fun M1 => ?_) (fun v hm2 => ?_)
  · refine o_iloadN W0 3 (hb hy d17_2) rfl rfl <| o_bipush W0 (v := 48) 5 (hb hy d17_3) (by decide) rfl ?_
    by_cases he3 : x1 < (48 : Int32)
    · refine o_icmpY W0 18 (hb hy d17_5) (XT.ii_lt_t he3) (by decide) rfl <| o_iconst W0 (v := 0) 19 (hb hy d17_18) rfl rfl ?_
      exact M1 (0 : Int32) (by simp [own_dg, he3])
    · refine o_icmpN W0 8 (hb hy d17_5) (XT.ii_lt_f he3) rfl <| o_iloadN W0 9 (hb hy d17_8) rfl rfl <| o_bipush W0 (v := 57) 11 (hb hy d17_9) (by decide) rfl ?_
      by_cases he4 : (57 : Int32) < x1
      · refine o_icmpY W0 18 (hb hy d17_11) (XT.ii_gt_t he4) (by decide) rfl <| o_iconst W0 (v := 0) 19 (hb hy d17_18) rfl rfl ?_
        exact M1 (0 : Int32) (by simp [own_dg, he3, he4])
      · refine o_icmpN W0 14 (hb hy d17_11) (XT.ii_gt_f he4) rfl <| o_iconst W0 (v := 1) 15 (hb hy d17_14) rfl rfl <| o_goto W0 19 (hb hy d17_15) (by decide) rfl ?_
        exact M1 (1 : Int32) (by simp [own_dg, he3, he4])
  obtain ⟨dg, hqhm2⟩ : ∃ z, z = v := ⟨_, rfl⟩
  subst hqhm2
  have hm2 : dg = own_dg x1 := hm2
  show Gl _ _ _ _ _ _ _ #[.val (.int x1), .val (.int x1), .unset, .unset, .unset] [(.int dg)]
  subst hm2
  refine o_istoreN W0 (L' := #[vi x1, vi x1, vi (own_dg x1), un, un]) 20 (hb hy d17_19) rfl rfl <| o_iloadN W0 21 (hb hy d17_20) rfl rfl <| o_bipush W0 (v := 32) 23 (hb hy d17_21) (by decide) rfl <| o_ior W0 (v := (x1 ||| (32 : Int32))) 24 (hb hy d17_23) rfl rfl <| o_istoreN W0 (L' := #[vi x1, vi x1, vi (own_dg x1), vi (x1 ||| (32 : Int32)), un]) 25 (hb hy d17_24) rfl rfl ?_
  refine o_merge (α := Int32) (fun v => v = own_le x1) 42 (fun v => #[.val (.int x1), .val (.int x1), .val (.int (own_dg x1)), .val (.int (x1 ||| (32 : Int32))), .unset]) (fun v => [(.int v)]) (fun M5 => ?_) (fun v hm6 => ?_)
  · refine o_iloadN W0 26 (hb hy d17_25) rfl rfl <| o_bipush W0 (v := 97) 28 (hb hy d17_26) (by decide) rfl ?_
    by_cases he7 : (x1 ||| (32 : Int32)) < (97 : Int32)
    · refine o_icmpY W0 41 (hb hy d17_28) (XT.ii_lt_t he7) (by decide) rfl <| o_iconst W0 (v := 0) 42 (hb hy d17_41) rfl rfl ?_
      exact M5 (0 : Int32) (by simp [own_le, he7])
    · refine o_icmpN W0 31 (hb hy d17_28) (XT.ii_lt_f he7) rfl <| o_iloadN W0 32 (hb hy d17_31) rfl rfl <| o_bipush W0 (v := 122) 34 (hb hy d17_32) (by decide) rfl ?_
      by_cases he8 : (122 : Int32) < (x1 ||| (32 : Int32))
      · refine o_icmpY W0 41 (hb hy d17_34) (XT.ii_gt_t he8) (by decide) rfl <| o_iconst W0 (v := 0) 42 (hb hy d17_41) rfl rfl ?_
        exact M5 (0 : Int32) (by simp [own_le, he7, he8])
      · refine o_icmpN W0 37 (hb hy d17_34) (XT.ii_gt_f he8) rfl <| o_iconst W0 (v := 1) 38 (hb hy d17_37) rfl rfl <| o_goto W0 42 (hb hy d17_38) (by decide) rfl ?_
        exact M5 (1 : Int32) (by simp [own_le, he7, he8])
  obtain ⟨le, hqhm6⟩ : ∃ z, z = v := ⟨_, rfl⟩
  subst hqhm6
  have hm6 : le = own_le x1 := hm6
  show Gl _ _ _ _ _ _ _ #[.val (.int x1), .val (.int x1), .val (.int (own_dg x1)), .val (.int (x1 ||| (32 : Int32))), .unset] [(.int le)]
  subst hm6
  refine o_istore W0 (L' := #[vi x1, vi x1, vi (own_dg x1), vi (x1 ||| (32 : Int32)), vi (own_le x1)]) 44 (hb hy d17_42) rfl rfl ?_
  refine o_merge (α := Int32) (fun v => v = own_okc x1) 76 (fun v => #[.val (.int x1), .val (.int x1), .val (.int (own_dg x1)), .val (.int (x1 ||| (32 : Int32))), .val (.int (own_le x1))]) (fun v => [(.int v)]) (fun M9 => ?_) (fun v hm10 => ?_)
  · refine o_iloadN W0 45 (hb hy d17_44) rfl rfl ?_
    rcases (Classical.em ((own_dg x1) = (0 : Int32))).symm with he11 | he11
    · refine o_ifY W0 71 (hb hy d17_45) (XT.i0_ne_t he11) (by decide) rfl <| o_iconst W0 (v := 1) 72 (hb hy d17_71) rfl rfl <| o_goto W0 76 (hb hy d17_72) (by decide) rfl ?_
      exact M9 (1 : Int32) ((by simp [own_okl, own_ok4, he11] : (1 : Int32) = own_okl x1).trans (own_okE hc1).symm)
    · refine o_ifN W0 48 (hb hy d17_45) (XT.i0_ne_f he11) rfl <| o_iload W0 50 (hb hy d17_48) rfl rfl ?_
      rcases (Classical.em ((own_le x1) = (0 : Int32))).symm with he12 | he12
      · refine o_ifY W0 71 (hb hy d17_50) (XT.i0_ne_t he12) (by decide) rfl <| o_iconst W0 (v := 1) 72 (hb hy d17_71) rfl rfl <| o_goto W0 76 (hb hy d17_72) (by decide) rfl ?_
        exact M9 (1 : Int32) ((by simp [own_okl, own_ok4, he11, he12] : (1 : Int32) = own_okl x1).trans (own_okE hc1).symm)
      · refine o_ifN W0 53 (hb hy d17_50) (XT.i0_ne_f he12) rfl <| o_iloadN W0 54 (hb hy d17_53) rfl rfl <| o_bipush W0 (v := 46) 56 (hb hy d17_54) (by decide) rfl ?_
        by_cases he13 : x1 = (46 : Int32)
        · refine o_icmpY W0 71 (hb hy d17_56) (XT.ii_eq_t he13) (by decide) rfl <| o_iconst W0 (v := 1) 72 (hb hy d17_71) rfl rfl <| o_goto W0 76 (hb hy d17_72) (by decide) rfl ?_
          exact M9 (1 : Int32) ((by simp [own_okl, own_ok4, he11, he12, he13] : (1 : Int32) = own_okl x1).trans (own_okE hc1).symm)
        · refine o_icmpN W0 59 (hb hy d17_56) (XT.ii_eq_f he13) rfl <| o_iloadN W0 60 (hb hy d17_59) rfl rfl <| o_bipush W0 (v := 95) 62 (hb hy d17_60) (by decide) rfl ?_
          by_cases he14 : x1 = (95 : Int32)
          · refine o_icmpY W0 71 (hb hy d17_62) (XT.ii_eq_t he14) (by decide) rfl <| o_iconst W0 (v := 1) 72 (hb hy d17_71) rfl rfl <| o_goto W0 76 (hb hy d17_72) (by decide) rfl ?_
            exact M9 (1 : Int32) ((by simp [own_okl, own_ok4, he11, he12, he13, he14] : (1 : Int32) = own_okl x1).trans (own_okE hc1).symm)
          · refine o_icmpN W0 65 (hb hy d17_62) (XT.ii_eq_f he14) rfl <| o_iloadN W0 66 (hb hy d17_65) rfl rfl <| o_bipush W0 (v := 45) 68 (hb hy d17_66) (by decide) rfl ?_
            rcases (Classical.em (x1 = (45 : Int32))).symm with he15 | he15
            · refine o_icmpY W0 75 (hb hy d17_68) (XT.ii_ne_t he15) (by decide) rfl <| o_iconst W0 (v := 0) 76 (hb hy d17_75) rfl rfl ?_
              exact M9 (0 : Int32) ((by simp [own_okl, own_ok4, he11, he12, he13, he14, he15] : (0 : Int32) = own_okl x1).trans (own_okE hc1).symm)
            · refine o_icmpN W0 71 (hb hy d17_68) (XT.ii_ne_f he15) rfl <| o_iconst W0 (v := 1) 72 (hb hy d17_71) rfl rfl <| o_goto W0 76 (hb hy d17_72) (by decide) rfl ?_
              exact M9 (1 : Int32) ((by simp [own_okl, own_ok4, he11, he12, he13, he14, he15] : (1 : Int32) = own_okl x1).trans (own_okE hc1).symm)
  obtain ⟨rv, hqhm10⟩ : ∃ z, z = v := ⟨_, rfl⟩
  subst hqhm10
  have hm10 : rv = own_okc x1 := hm10
  show Gl _ _ _ _ _ _ _ #[.val (.int x1), .val (.int x1), .val (.int (own_dg x1)), .val (.int (x1 ||| (32 : Int32))), .val (.int (own_le x1))] [(.int rv)]
  subst hm10
  exact o_retN W0 hlk (t := .boolean) hret (by simp) (z' := (own_okc x1)) (own_nar01 (own_ok01 _)) (hb hy d17_76) (by decide) (by decide) rfl
theorem rm2 (l : Launch) {Z a0} (hw : HW Z a0) (x1 x2 : Int32) (h0 : Heap) (O0 : Old Z Z.heap.size h0) :
    CtrN l Z mn4 method_2_code 2 (some .char) [] (⟨0, 0, 0, 0⟩ : Room) #[(.int x1), (.int x2)] h0 [] (fun v h => ∃ r1 : Int32, own_c r1 ∧ v = some (.int r1)) := by
  refine CtrN.intro (L0 := #[vi x1, vi x2]) (plainFor_of_name pn0) O0 (own_entry rfl) ?_
  intro p e s m below meth c T0 hy hml hret hlk hnm W0
  refine o_iloadN W0 1 (hb hy d1_0) rfl rfl ?_
  by_cases hq1 : x2 = (0 : Int32)
  · refine o_ifY W0 12 (hb hy d1_1) (XT.i0_eq_t hq1) (by decide) rfl <| o_iloadN W0 13 (hb hy d1_12) rfl rfl <| o_i2c W0 (v := (x1.toUInt32.toUInt16.toUInt32.toInt32)) 14 (hb hy d1_13) rfl rfl ?_
    exact o_retN W0 hlk (t := .char) hret (by simp) (z' := (x1.toUInt32.toUInt16.toUInt32.toInt32)) (own_i2cc (own_cc _)) (hb hy d1_14) (by decide) (by decide) ⟨(x1.toUInt32.toUInt16.toUInt32.toInt32), own_cc _, rfl⟩
  · refine o_ifN W0 4 (hb hy d1_1) (XT.i0_eq_f hq1) rfl <| o_iloadN W0 5 (hb hy d1_4) rfl rfl <| o_bipush W0 (v := 127) 7 (hb hy d1_5) (by decide) rfl <| o_iand W0 (v := (x1 &&& 127)) 8 (hb hy d1_7) rfl rfl <| o_i2c W0 (v := ((x1 &&& 127).toUInt32.toUInt16.toUInt32.toInt32)) 9 (hb hy d1_8) rfl rfl <| o_goto W0 14 (hb hy d1_9) (by decide) rfl ?_
    exact o_retN W0 hlk (t := .char) hret (by simp) (z' := ((x1 &&& 127).toUInt32.toUInt16.toUInt32.toInt32)) (own_i2cc (own_cc _)) (hb hy d1_14) (by decide) (by decide) ⟨((x1 &&& 127).toUInt32.toUInt16.toUInt32.toInt32), own_cc _, rfl⟩
theorem rm3 (l : Launch) {Z a0} (hw : HW Z a0) (a1 a2 : Addr) (h0 : Heap) (O0 : Old Z Z.heap.size h0) (z0 : Exa Z h0 a1 s0) (z1 : Fld Z h0 a1 s0 "value" "[B" .null) (z2 : Z.heap.size ≤ a1) (z3 : Fld Z h0 a1 s0 "coder" "B" iZ) :
    CtrW l Z consts_1 mn5 jdk_42_method_149_code 6 none [] (⟨1, 4, 8, 12⟩ : Room) #[(.ref a1), (.ref a2), iZ, iZ, .null] h0 [a1] (fun v h => ∃ r1 : Addr, ∃ r2 : ClassId, Fld Z h a1 s0 "value" "[B" (.ref r1) ∧ Fld Z h a1 s0 "coder" "B" iZ ∧ Arv Z h r1 r2 .byte 0 [] iZ ∧ v = none) := by
  refine CtrW.intro (L0 := #[vr a1, vr a2, vi 0, vi 0, .val .null, un]) (plainFor_of_name pn1) O0 (own_entry rfl) ?_
  intro p e s m below meth c T0 V0 hy hml hret hlk hnm W0
  refine o_aloadN W0 1 (hb hy d3_0) rfl rfl rfl ?_
  refine o_initO W0 (w16 hw) (w17 hw) (w18 hw) (by rw [hml]; rfl) 4 (hb hy d3_1) rfl (by decide) 0 (by exact Nat.le_of_eq rfl) (by decide) ?_
  intro T1 W1
  refine o_iloadN W1 5 (hb hy d3_4) rfl rfl <| o_ifN W1 8 (hb hy d3_5) (XT.i0_ne_f (by decide)) rfl <| o_aloadN W1 9 (hb hy d3_8) rfl rfl rfl ?_
  refine o_ldcR W1 (w19 hw) (own_wS hw) (own_EL hw) (by simp [consts_1]) 11 (hb hy d3_9) rfl (n := 0) (by decide) (by decide) (cells' := 2) (slots' := 4) rfl rfl (by decide) (by decide) (vs := []) (z := (0 : Int32)) ⟨by decide, by decide⟩ (by decide) (by decide) ?_
  intro s2 T2 h2 V2 t2 k2 W2 E2 C2 X2 Fc2 Fv2 A2 ns2
  refine o_getF W2 (w25 hw) Via.refl Fv2 14 (hb hy d3_11) rfl ?_
  intro T3 W3
  have c4 := (z0.ext E2)
  have c5 := (z1.ext E2)
  have sf6 := own_safeS (EL := consts_1) W3.al c4 c5
  refine o_putF W3 (w25 hw) Via.refl c5 c4 (Or.inr ⟨(w21 hw), rfl, hnm⟩) (w7 hw) (ty := (.array .byte)) (v' := (.ref t2)) (by decide) rfl rfl z2 m0 (fun _ R => IW.wr R sf6 W3.inv) 17 (hb hy d3_14) rfl ?_
  intro T7 h7 lo7 W7 R7
  have F7 := c5.same R7
  refine o_aloadN W7 18 (hb hy d3_17) rfl rfl rfl ?_
  refine o_ldcR W7 (w19 hw) (own_wS hw) (own_EL hw) (by simp [consts_1]) 20 (hb hy d3_18) rfl (n := 0) (by decide) (by decide) (cells' := 4) (slots' := 8) rfl rfl (by decide) (by decide) (vs := []) (z := (0 : Int32)) ⟨by decide, by decide⟩ (by decide) (by decide) ?_
  intro s8 T8 h8 V8 t8 k8 W8 E8 C8 X8 Fc8 Fv8 A8 ns8
  refine o_getF W8 (w26 hw) Via.refl Fc8 23 (hb hy d3_20) rfl ?_
  intro T9 W9
  have c10 := ((c4.wr R7).ext E8)
  have c11 := (((z3.ext E2).other R7 (Or.inr (slot_ne (Or.inr (w22 hw)) (Or.inr (w21 hw)) (by decide) (t := .byte) (t' := (.array .byte)) (by decide) (by decide)))).ext E8)
  have c12 := (c4.wr R7)
  have c13 := (CHr.safe C8 c12.lt (Safe.wr R7 sf6 W3.inv.2.1 sf6))
  refine o_putF W9 (w26 hw) Via.refl c11 c10 (Or.inr ⟨(w22 hw), rfl, hnm⟩) (w7 hw) (ty := .byte) (v' := iZ) (by decide) rfl (by decide) z2 m0 (fun _ R => IW.wr R c13 W9.inv) 26 (hb hy d3_23) rfl ?_
  intro T14 h14 lo14 W14 R14
  have F14 := c11.same R14
  have c15 := ((F7.ext E8).other R14 (Or.inr (slot_ne (Or.inr (w21 hw)) (Or.inr (w22 hw)) (by decide) (t := (.array .byte)) (t' := .byte) (by decide) (by decide))))
  have c16 := (c10.wr R14)
  have c17 := (((A2.other R7 (Ne.symm (ns2 _ sf6).2)).ext E8).other R14 (Ne.symm (ns2 _ sf6).2))
  exact o_ret0W W14 (own_EL hw) hlk hret (hb hy d3_26) (by decide) (by decide) ⟨t2, k2, c15, F14, c17, rfl⟩
theorem rm4 (l : Launch) {Z a0} (hw : HW Z a0) (a1 a2 : Addr) (z0 : ClassId) (h0 : Heap) (O0 : Old Z Z.heap.size h0) (z1 : Arv Z h0 a2 z0 .char 0 [] iZ) (z2 : Exa Z h0 a1 s0) (z3 : Fld Z h0 a1 s0 "value" "[B" .null) (z4 : Fld Z h0 a1 s0 "coder" "B" iZ) (z5 : Z.heap.size ≤ a1) :
    CtrW l Z consts_1 mn6 jdk_42_method_3_code 2 none [] (⟨2, 4, 8, 29⟩ : Room) #[(.ref a1), (.ref a2)] h0 [a1] (fun v h => ∃ r1 : Addr, ∃ r2 : ClassId, Fld Z h a1 s0 "value" "[B" (.ref r1) ∧ Fld Z h a1 s0 "coder" "B" iZ ∧ Arv Z h r1 r2 .byte 0 [] iZ ∧ v = none) := by
  refine CtrW.intro (L0 := #[vr a1, vr a2]) (plainFor_of_name pn1) O0 (own_entry rfl) ?_
  intro p e s m below meth c T0 V0 hy hml hret hlk hnm W0
  refine o_aloadN W0 1 (hb hy d2_0) rfl rfl rfl <| o_aloadN W0 2 (hb hy d2_1) rfl rfl rfl <| o_iconst W0 (v := 0) 3 (hb hy d2_2) rfl rfl <| o_aloadN W0 4 (hb hy d2_3) rfl rfl rfl <| o_len W0 z1 5 (hb hy d2_4) rfl ?_
  refine o_aconstNull W0 6 (hb hy d2_5) rfl ?_
  refine o_specialW W0 (y := mn5) rfl (w12 hw) (w13 hw) (w15 hw) (by decide) (a := a1) (argsL := [(.ref a2), iZ, iZ, .null]) (CtrW.back (Wd := 0) W0 (rm3 l hw a1 a2 h0 W0.old z2 z3 z5 z4) (w15 hw) (w8 hw) (by decide) (by decide) (own_EL hw)) (by rw [hml]; rfl) (lenOf pd1 rfl) (S := []) rfl (by exact Nat.le_of_eq rfl) 9 (hb hy d2_6) rfl (cells' := 4) (slots' := 8) rfl rfl (by decide) (by decide) (wy := [a1]) qf (allS ⟨z5, m0⟩ all0)  ?_
  intro v1 T1 h1 V1 lo1 W1 K1 C1 q1
  obtain ⟨r1_1, r2_1, P1_0, P1_1, P1_2, rfl⟩ := q1.2.2
  show Gl _ _ _ _ _ _ _ _ []
  have c2 := (z2.keep K1)
  exact o_ret0W W1 (own_EL hw) hlk hret (hb hy d2_9) (by decide) (by decide) ⟨r1_1, r2_1, P1_0, P1_1, P1_2, rfl⟩
theorem rm5 (l : Launch) {Z a0} (hw : HW Z a0) (a1 a2 : Addr) (z0 : ClassId) (h0 : Heap) (O0 : Old Z Z.heap.size h0) (z1 : Fld Z h0 a1 s0 "value" "[B" (.ref a2)) (z2 : Arv Z h0 a2 z0 .byte 0 [] iZ) :
    CtrN l Z mn0 jdk_42_method_55_code 1 (some .boolean) [] (⟨0, 0, 0, 0⟩ : Room) #[(.ref a1)] h0 [] (fun v h => v = some (.int 1)) := by
  refine CtrN.intro (L0 := #[vr a1]) (plainFor_of_name pn1) O0 (own_entry rfl) ?_
  intro p e s m below meth c T0 hy hml hret hlk hnm W0
  refine o_aloadN W0 1 (hb hy d6_0) rfl rfl rfl ?_
  refine o_getF W0 (w25 hw) Via.refl z1 4 (hb hy d6_1) rfl ?_
  intro T1 W1
  refine o_len W1 z2 5 (hb hy d6_4) rfl <| o_ifN W1 8 (hb hy d6_5) (XT.i0_ne_f (by decide)) rfl <| o_iconst W1 (v := 1) 9 (hb hy d6_8) rfl rfl <| o_goto W1 13 (hb hy d6_9) (by decide) rfl ?_
  exact o_retN W1 hlk (t := .boolean) hret (by simp) (z' := (1 : Int32)) (by decide) (hb hy d6_13) (by decide) (by decide) rfl
theorem rm6 (l : Launch) {Z a0} (hw : HW Z a0) (a1 a2 : Addr) (z0 : ClassId) (h0 : Heap) (O0 : Old Z Z.heap.size h0) (z1 : Exa Z h0 a1 s0) (z2 : Fld Z h0 a1 s0 "value" "[B" (.ref a2)) (z3 : Arv Z h0 a2 z0 .byte 0 [] iZ) :
    CtrN l Z mn7 prog_6_method_2_code 4 (some .boolean) [] (⟨1, 0, 0, 12⟩ : Room) #[(.ref a1)] h0 [] (fun v h => v = some iZ) := by
  refine CtrN.intro (L0 := #[vr a1, un, un, un]) (plainFor_of_name pn2) O0 (own_entry rfl) ?_
  intro p e s m below meth c T0 hy hml hret hlk hnm W0
  refine o_aloadN W0 1 (hb hy d5_0) rfl rfl rfl ?_
  refine o_ifnullN W0 4 (hb hy d5_1) rfl ?_
  refine o_aloadN W0 5 (hb hy d5_4) rfl rfl rfl ?_
  refine o_virtualC W0 (w31 hw) (w32 hw) (o_nf W0 rfl (w34 hw)) (w34 hw) (w33 hw) (by decide) z1 (w35 hw) (w8 hw) (rm5 l hw a1 a2 z0 h0 W0.old z2 z3) 0 0 0 (by decide) (by rw [hml]; rfl) (lenOf pd3 rfl) [] rfl rfl 8 (hb hy d5_5) rfl rfl rfl all0 tri ?_
  intro v1 T1 h1 lo1 W1 K1 q1
  obtain rfl := q1.2.2
  show Gl _ _ _ _ _ _ _ _ [(.int 1)]
  refine o_ifY W1 21 (hb hy d5_8) (XT.i0_ne_t (by decide)) (by decide) rfl <| o_iconst W1 (v := 0) 22 (hb hy d5_21) rfl rfl ?_
  exact o_retN W1 hlk (t := .boolean) hret (by simp) (z' := (0 : Int32)) (by decide) (hb hy d5_22) (by decide) (by decide) rfl
theorem rm7 (l : Launch) {Z a0} (hw : HW Z a0) (a1 a2 : Addr) (z0 : ClassId) (x1 : Int32) (z1 : ClassId) (h0 : Heap) (O0 : Old Z Z.heap.size h0) (z2 : Arv Z h0 a1 z0 .char 1 [(.int x1)] iZ) (hu1 : own_c x1) (hc2 : ¬ ((255 : Int32) < x1)) (z3 : Arv Z h0 a2 z1 .byte 1 [iZ] iZ) (z4 : Z.heap.size ≤ a2) :
    CtrN l Z mn8 jdk_52_method_21_code 7 (some .int) [] (⟨0, 0, 0, 0⟩ : Room) #[(.ref a1), iZ, (.ref a2), iZ, (.int 1)] h0 [a2] (fun v h => Arv Z h a2 z1 .byte 1 [(.int (bB x1))] iZ ∧ v = some (.int 1)) := by
  refine CtrN.intro (L0 := #[vr a1, vi 0, vr a2, vi 0, vi 1, un, un]) (plainFor_of_name pn3) O0 (own_entry rfl) ?_
  intro p e s m below meth c T0 hy hml hret hlk hnm W0
  refine o_iconst W0 (v := 0) 1 (hb hy d15_0) rfl rfl <| o_istore W0 (L' := #[vr a1, vi 0, vr a2, vi 0, vi 1, vi 0, un]) 3 (hb hy d15_1) rfl rfl <| o_iload W0 5 (hb hy d15_3) rfl rfl <| o_iload W0 7 (hb hy d15_5) rfl rfl <| o_icmpN W0 10 (hb hy d15_7) (XT.ii_ge_f (by decide)) rfl <| o_aloadN W0 11 (hb hy d15_10) rfl rfl rfl ?_
  refine o_iloadN W0 12 (hb hy d15_11) rfl rfl <| o_caload W0 z2 (x := x1) (i := 0) (by decide) (by decide) (by decide) rfl 13 (hb hy d15_12) rfl <| o_istore W0 (L' := #[vr a1, vi 0, vr a2, vi 0, vi 1, vi 0, vi x1]) 15 (hb hy d15_13) rfl rfl <| o_iload W0 17 (hb hy d15_15) rfl rfl <| o_sipush W0 (v := 255) 20 (hb hy d15_17) (by decide) rfl <| o_icmpY W0 26 (hb hy d15_20) (XT.ii_le_t (own_cb hu1 hc2).2) (by decide) rfl ?_
  refine o_aloadN W0 27 (hb hy d15_26) rfl rfl rfl <| o_iloadN W0 28 (hb hy d15_27) rfl rfl <| o_iload W0 30 (hb hy d15_28) rfl rfl <| o_i2b W0 (v := (bB x1)) 31 (hb hy d15_30) rfl rfl ?_
  refine o_stB W0 z3 (i := 0) (x' := (bB x1)) (by decide) (by decide) (by decide) (Nat.lt_of_sub_eq_succ rfl) (own_b8 _) (vs' := [(.int (bB x1))]) rfl z4 m0 tri 32 (hb hy d15_31) rfl ?_
  intro T3 h3 lo3 W3 R3 V3
  refine o_iinc W3 (v := 1) (L' := #[vr a1, vi 1, vr a2, vi 0, vi 1, vi 0, vi x1]) 35 (hb hy d15_32) rfl (by decide) rfl rfl <| o_iinc W3 (v := 1) (L' := #[vr a1, vi 1, vr a2, vi 1, vi 1, vi 0, vi x1]) 38 (hb hy d15_35) rfl (by decide) rfl rfl <| o_iinc W3 (v := 1) (L' := #[vr a1, vi 1, vr a2, vi 1, vi 1, vi 1, vi x1]) 41 (hb hy d15_38) rfl (by decide) rfl rfl <| o_goto W3 3 (hb hy d15_41) (by decide) rfl <| o_iload W3 5 (hb hy d15_3) rfl rfl <| o_iload W3 7 (hb hy d15_5) rfl rfl ?_
  refine o_icmpY W3 44 (hb hy d15_7) (XT.ii_ge_t (by decide)) (by decide) rfl <| o_iload W3 46 (hb hy d15_44) rfl rfl ?_
  exact o_retI W3 hlk hret (hb hy d15_46) (by decide) (by decide) ⟨V3, rfl⟩
theorem rm8 (l : Launch) {Z a0} (hw : HW Z a0) (a1 : Addr) (z0 : ClassId) (x1 : Int32) (h0 : Heap) (O0 : Old Z Z.heap.size h0) (z1 : Arv Z h0 a1 z0 .char 1 [(.int x1)] iZ) (hu3 : own_c x1) (hc4 : ¬ ((255 : Int32) < x1)) :
    CtrN l Z mn9 jdk_52_method_16_code 6 (some (.array .byte)) [] (⟨1, 1, 1, 18⟩ : Room) #[(.ref a1), iZ, (.int 1)] h0 [] (fun v h => ∃ r1 : Addr, ∃ r2 : ClassId, h0.size ≤ r1 ∧ Arv Z h r1 r2 .byte 1 [(.int (bB x1))] iZ ∧ v = some (.ref r1)) := by
  refine CtrN.intro (L0 := #[vr a1, vi 0, vi 1, un, un, un]) (plainFor_of_name pn3) O0 (own_entry rfl) ?_
  intro p e s m below meth c T0 hy hml hret hlk hnm W0
  refine o_iloadN W0 1 (hb hy d14_0) rfl rfl ?_
  refine o_newP W0 (aty := .byte) (w20 hw) tri (by decide) (cap := 1) (by decide) (by decide) 3 (hb hy d14_1) rfl (cells' := 1) (slots' := 1) rfl rfl (by decide) (by decide) (vs := [iZ]) (dv := iZ) rfl rfl ?_
  intro b1 T1 h1 k1 W1 E1 ge1 gz1 gb1 V1
  refine o_astoreN W1 (L' := #[vr a1, vi 0, vi 1, vr b1, un, un]) 4 (hb hy d14_3) rfl rfl rfl <| o_aloadN W1 5 (hb hy d14_4) rfl rfl rfl <| o_iloadN W1 6 (hb hy d14_5) rfl rfl <| o_aloadN W1 7 (hb hy d14_6) rfl rfl rfl <| o_iconst W1 (v := 0) 8 (hb hy d14_7) rfl rfl <| o_iloadN W1 9 (hb hy d14_8) rfl rfl ?_
  have c2 := (z1.ext E1)
  refine o_staticC W1 (w75 hw) (w76 hw) (w73 hw) (w77 hw) (by decide) (rm7 l hw a1 b1 z0 x1 k1 h1 W1.old c2 hu3 hc4 V1 gz1) 0 1 1 (by decide) (by rw [hml]; rfl) (lenOf pd5 rfl) [] rfl rfl 12 (hb hy d14_9) rfl rfl rfl (allS ⟨gz1, (Or.inr gb1)⟩ all0) tri ?_
  intro v5 T5 h5 lo5 W5 K5 q5
  obtain ⟨P5_0, rfl⟩ := q5.2.2
  show Gl _ _ _ _ _ _ _ _ [(.int 1)]
  refine o_istore W5 (L' := #[vr a1, vi 0, vi 1, vr b1, vi 1, un]) 14 (hb hy d14_12) rfl rfl <| o_iload W5 16 (hb hy d14_14) rfl rfl <| o_iloadN W5 17 (hb hy d14_16) rfl rfl <| o_icmpY W5 57 (hb hy d14_17) (XT.ii_eq_t (by decide)) (by decide) rfl <| o_aloadN W5 58 (hb hy d14_57) rfl rfl rfl ?_
  exact o_retA W5 hlk (v := (.ref b1)) hret rfl rfl (hb hy d14_58) (by decide) (by decide) ⟨b1, k1, gb1, P5_0, rfl⟩
theorem rm9 (l : Launch) {Z a0} (hw : HW Z a0) (a1 : Addr) (z0 : ClassId) (x1 : Int32) (h0 : Heap) (O0 : Old Z Z.heap.size h0) (z1 : Arv Z h0 a1 z0 .byte 1 [(.int (bB x1))] iZ) :
    CtrN l Z mn10 jdk_52_method_15_code 2 (some .byte) [] (⟨0, 0, 0, 0⟩ : Room) #[(.ref a1), (.int 1)] h0 [] (fun v h => v = some iZ) := by
  refine CtrN.intro (L0 := #[vr a1, vi 1]) (plainFor_of_name pn3) O0 (own_entry rfl) ?_
  intro p e s m below meth c T0 hy hml hret hlk hnm W0
  refine o_iloadN W0 1 (hb hy d16_0) rfl rfl <| o_aloadN W0 2 (hb hy d16_1) rfl rfl rfl <| o_len W0 z1 3 (hb hy d16_2) rfl <| o_isub W0 (v := 0) 4 (hb hy d16_3) (by decide) rfl <| o_bipush W0 (v := 31) 6 (hb hy d16_4) (by decide) rfl <| o_iushr W0 (v := 0) 7 (hb hy d16_6) (by decide) rfl ?_
  refine o_i2b W0 (v := 0) 8 (hb hy d16_7) (by decide) rfl ?_
  exact o_retN W0 hlk (t := .byte) hret (by simp) (z' := (0 : Int32)) (by decide) (hb hy d16_8) (by decide) (by decide) rfl
theorem rm10 (l : Launch) {Z a0} (hw : HW Z a0) (gCS : Int32) (a1 a2 : Addr) (z0 : ClassId) (x1 : Int32) (h0 : Heap) (O0 : Old Z Z.heap.size h0) (SgCS : Sta Z Z.heap s0 s8 "Z" (.int gCS)) (NgCS : ¬ (gCS = (0 : Int32))) (z1 : Arv Z h0 a2 z0 .char 1 [(.int x1)] iZ) (hu3 : own_c x1) (hc4 : ¬ ((255 : Int32) < x1)) (z2 : Exa Z h0 a1 s0) (z3 : Fld Z h0 a1 s0 "coder" "B" iZ) (z4 : Z.heap.size ≤ a1) (z5 : Fld Z h0 a1 s0 "value" "[B" .null) :
    CtrN l Z mn5 jdk_42_method_149_code 6 none [] (⟨2, 1, 1, 35⟩ : Room) #[(.ref a1), (.ref a2), iZ, (.int 1), .null] h0 [a1] (fun v h => ∃ r1 : Addr, ∃ r2 : ClassId, h0.size ≤ r1 ∧ Fld Z h a1 s0 "coder" "B" iZ ∧ Fld Z h a1 s0 "value" "[B" (.ref r1) ∧ Arv Z h r1 r2 .byte 1 [(.int (bB x1))] iZ ∧ v = none) := by
  refine CtrN.intro (L0 := #[vr a1, vr a2, vi 0, vi 1, .val .null, un]) (plainFor_of_name pn1) O0 (own_entry rfl) ?_
  intro p e s m below meth c T0 hy hml hret hlk hnm W0
  refine o_aloadN W0 1 (hb hy d3_0) rfl rfl rfl ?_
  refine o_initO W0 (w16 hw) (w17 hw) (w18 hw) (by rw [hml]; rfl) 4 (hb hy d3_1) rfl (by decide) 0 (by exact Nat.le_of_eq rfl) (by decide) ?_
  intro T1 W1
  refine o_iloadN W1 5 (hb hy d3_4) rfl rfl <| o_ifY W1 27 (hb hy d3_5) (XT.i0_ne_t (by decide)) (by decide) rfl ?_
  refine o_getS W1 (w48 hw) Via.refl (SgCS.ext W1.ox) 30 (hb hy d3_27) rfl ?_
  intro T2 W2
  refine o_ifN W2 33 (hb hy d3_30) (XT.i0_eq_f NgCS) rfl <| o_aloadN W2 34 (hb hy d3_33) rfl rfl rfl <| o_iloadN W2 35 (hb hy d3_34) rfl rfl <| o_iloadN W2 36 (hb hy d3_35) rfl rfl ?_
  refine o_staticC W2 (w71 hw) (w72 hw) (w73 hw) (w74 hw) (by decide) (rm8 l hw a2 z0 x1 h0 W2.old z1 hu3 hc4) 0 1 1 (by decide) (by rw [hml]; rfl) (lenOf pd6 rfl) [] rfl rfl 39 (hb hy d3_36) rfl rfl rfl all0 tri ?_
  intro v5 T5 h5 lo5 W5 K5 q5
  obtain ⟨r1_5, r2_5, P5_0, P5_1, rfl⟩ := q5.2.2
  show Gl _ _ _ _ _ _ _ _ [(.ref r1_5)]
  refine o_astore W5 (L' := #[vr a1, vr a2, vi 0, vi 1, .val .null, vr r1_5]) 41 (hb hy d3_39) rfl rfl rfl <| o_aloadN W5 42 (hb hy d3_41) rfl rfl rfl <| o_aload W5 44 (hb hy d3_42) rfl rfl rfl <| o_iloadN W5 45 (hb hy d3_44) rfl rfl ?_
  refine o_staticC W5 (w78 hw) (w79 hw) (w73 hw) (w80 hw) (by decide) (rm9 l hw r1_5 r2_5 x1 h5 W5.old P5_1) 1 1 1 (by decide) (by rw [hml]; rfl) (lenOf pd7 rfl) [(.ref a1)] rfl rfl 48 (hb hy d3_45) rfl rfl rfl all0 tri ?_
  intro v6 T6 h6 lo6 W6 K6 q6
  obtain rfl := q6.2.2
  show Gl _ _ _ _ _ _ _ _ [iZ, (.ref a1)]
  have c7 := ((z2.keep K5).keep K6)
  have c8 := ((z3.keep K5 nin0).keep K6 nin0)
  refine o_putF W6 (w26 hw) Via.refl c8 c7 (Or.inr ⟨(w22 hw), rfl, hnm⟩) (w7 hw) (ty := .byte) (v' := iZ) (by decide) rfl (by decide) z4 m0 tri 51 (hb hy d3_48) rfl ?_
  intro T9 h9 lo9 W9 R9
  have F9 := c8.same R9
  refine o_aloadN W9 52 (hb hy d3_51) rfl rfl rfl <| o_aload W9 54 (hb hy d3_52) rfl rfl rfl ?_
  have c10 := (c7.wr R9)
  have c11 := (((z5.keep K5 nin0).keep K6 nin0).other R9 (Or.inr (slot_ne (Or.inr (w21 hw)) (Or.inr (w22 hw)) (by decide) (t := (.array .byte)) (t' := .byte) (by decide) (by decide))))
  refine o_putF W9 (w25 hw) Via.refl c11 c10 (Or.inr ⟨(w21 hw), rfl, hnm⟩) (w7 hw) (ty := (.array .byte)) (v' := (.ref r1_5)) (by decide) rfl rfl z4 m0 tri 57 (hb hy d3_54) rfl ?_
  intro T12 h12 lo12 W12 R12
  have F12 := c11.same R12
  have c13 := (F9.other R12 (Or.inr (slot_ne (Or.inr (w22 hw)) (Or.inr (w21 hw)) (by decide) (t := .byte) (t' := (.array .byte)) (by decide) (by decide))))
  have c14 := (c10.wr R12)
  have c15 := (((P5_1.keep K6 nin0).other R9 (own_ne' z2.lt P5_0)).other R12 (own_ne' z2.lt P5_0))
  exact o_ret0 W12 hlk hret (hb hy d3_57) (by decide) (by decide) ⟨r1_5, r2_5, (Nat.le_trans W2.keep.1 P5_0), c13, F12, c15, rfl⟩
theorem rm11 (l : Launch) {Z a0} (hw : HW Z a0) (a1 a2 : Addr) (z0 : ClassId) (x1 : Int32) (h0 : Heap) (O0 : Old Z Z.heap.size h0) (z1 : Fld Z h0 a1 s0 "value" "[B" (.ref a2)) (z2 : Arv Z h0 a2 z0 .byte 1 [(.int (bB x1))] iZ) :
    CtrN l Z mn0 jdk_42_method_55_code 1 (some .boolean) [] (⟨0, 0, 0, 0⟩ : Room) #[(.ref a1)] h0 [] (fun v h => v = some iZ) := by
  refine CtrN.intro (L0 := #[vr a1]) (plainFor_of_name pn1) O0 (own_entry rfl) ?_
  intro p e s m below meth c T0 hy hml hret hlk hnm W0
  refine o_aloadN W0 1 (hb hy d6_0) rfl rfl rfl ?_
  refine o_getF W0 (w25 hw) Via.refl z1 4 (hb hy d6_1) rfl ?_
  intro T1 W1
  refine o_len W1 z2 5 (hb hy d6_4) rfl <| o_ifY W1 12 (hb hy d6_5) (XT.i0_ne_t (by decide)) (by decide) rfl <| o_iconst W1 (v := 0) 13 (hb hy d6_12) rfl rfl ?_
  exact o_retN W1 hlk (t := .boolean) hret (by simp) (z' := (0 : Int32)) (by decide) (hb hy d6_13) (by decide) (by decide) rfl
theorem rm12 (l : Launch) {Z a0} (hw : HW Z a0) (gCS : Int32) (a1 : Addr) (h0 : Heap) (O0 : Old Z Z.heap.size h0) (SgCS : Sta Z Z.heap s0 s8 "Z" (.int gCS)) (NgCS : ¬ (gCS = (0 : Int32))) (z0 : Fld Z h0 a1 s0 "coder" "B" iZ) :
    CtrN l Z mn11 jdk_42_method_152_code 1 (some .byte) [] (⟨0, 0, 0, 0⟩ : Room) #[(.ref a1)] h0 [] (fun v h => v = some iZ) := by
  refine CtrN.intro (L0 := #[vr a1]) (plainFor_of_name pn1) O0 (own_entry rfl) ?_
  intro p e s m below meth c T0 hy hml hret hlk hnm W0
  refine o_getS W0 (w48 hw) Via.refl (SgCS.ext W0.ox) 3 (hb hy d8_0) rfl ?_
  intro T1 W1
  refine o_ifN W1 6 (hb hy d8_3) (XT.i0_eq_f NgCS) rfl <| o_aloadN W1 7 (hb hy d8_6) rfl rfl rfl ?_
  refine o_getF W1 (w26 hw) Via.refl z0 10 (hb hy d8_7) rfl ?_
  intro T2 W2
  refine o_goto W2 14 (hb hy d8_10) (by decide) rfl ?_
  exact o_retN W2 hlk (t := .byte) hret (by simp) (z' := (0 : Int32)) (by decide) (hb hy d8_14) (by decide) (by decide) rfl
theorem rm13 (l : Launch) {Z a0} (hw : HW Z a0) (gCS : Int32) (a1 a2 : Addr) (z0 : ClassId) (x1 : Int32) (h0 : Heap) (O0 : Old Z Z.heap.size h0) (z1 : Fld Z h0 a1 s0 "value" "[B" (.ref a2)) (z2 : Arv Z h0 a2 z0 .byte 1 [(.int (bB x1))] iZ) (z3 : Exa Z h0 a1 s0) (SgCS : Sta Z Z.heap s0 s8 "Z" (.int gCS)) (NgCS : ¬ (gCS = (0 : Int32))) (z4 : Fld Z h0 a1 s0 "coder" "B" iZ) :
    CtrN l Z mn1 jdk_42_method_54_code 1 (some .int) [] (⟨1, 0, 0, 14⟩ : Room) #[(.ref a1)] h0 [] (fun v h => v = some (.int 1)) := by
  refine CtrN.intro (L0 := #[vr a1]) (plainFor_of_name pn1) O0 (own_entry rfl) ?_
  intro p e s m below meth c T0 hy hml hret hlk hnm W0
  refine o_aloadN W0 1 (hb hy d7_0) rfl rfl rfl ?_
  refine o_getF W0 (w25 hw) Via.refl z1 4 (hb hy d7_1) rfl ?_
  intro T1 W1
  refine o_len W1 z2 5 (hb hy d7_4) rfl <| o_aloadN W1 6 (hb hy d7_5) rfl rfl rfl ?_
  refine o_virtualC W1 (w43 hw) (w44 hw) (o_nf W1 rfl (w46 hw)) (w46 hw) (w45 hw) (by decide) z3 (w47 hw) (w8 hw) (rm12 l hw gCS a1 h0 W1.old SgCS NgCS z4) 1 0 0 (by decide) (by rw [hml]; rfl) (lenOf pd8 rfl) [(.int 1)] rfl rfl 9 (hb hy d7_6) rfl rfl rfl all0 tri ?_
  intro v2 T2 h2 lo2 W2 K2 q2
  obtain rfl := q2.2.2
  show Gl _ _ _ _ _ _ _ _ [iZ, (.int 1)]
  refine o_ishr W2 (v := 1) 10 (hb hy d7_9) (by decide) rfl ?_
  exact o_retI W2 hlk hret (hb hy d7_10) (by decide) (by decide) rfl
theorem rm14 (l : Launch) {Z a0} (hw : HW Z a0) (gCS : Int32) (a1 : Addr) (h0 : Heap) (O0 : Old Z Z.heap.size h0) (SgCS : Sta Z Z.heap s0 s8 "Z" (.int gCS)) (NgCS : ¬ (gCS = (0 : Int32))) (z0 : Fld Z h0 a1 s0 "coder" "B" iZ) :
    CtrN l Z mn12 jdk_42_method_154_code 1 (some .boolean) [] (⟨0, 0, 0, 0⟩ : Room) #[(.ref a1)] h0 [] (fun v h => v = some (.int 1)) := by
  refine CtrN.intro (L0 := #[vr a1]) (plainFor_of_name pn1) O0 (own_entry rfl) ?_
  intro p e s m below meth c T0 hy hml hret hlk hnm W0
  refine o_getS W0 (w48 hw) Via.refl (SgCS.ext W0.ox) 3 (hb hy d10_0) rfl ?_
  intro T1 W1
  refine o_ifN W1 6 (hb hy d10_3) (XT.i0_eq_f NgCS) rfl <| o_aloadN W1 7 (hb hy d10_6) rfl rfl rfl ?_
  refine o_getF W1 (w26 hw) Via.refl z0 10 (hb hy d10_7) rfl ?_
  intro T2 W2
  refine o_ifN W2 13 (hb hy d10_10) (XT.i0_ne_f (by decide)) rfl <| o_iconst W2 (v := 1) 14 (hb hy d10_13) rfl rfl <| o_goto W2 18 (hb hy d10_14) (by decide) rfl ?_
  exact o_retN W2 hlk (t := .boolean) hret (by simp) (z' := (1 : Int32)) (by decide) (hb hy d10_18) (by decide) (by decide) rfl
theorem rm15 (l : Launch) {Z a0} (hw : HW Z a0)  (h0 : Heap) (O0 : Old Z Z.heap.size h0) :
    CtrN l Z mn13 jdk_41_method_11_code 3 (some .int) [] (⟨0, 0, 0, 0⟩ : Room) #[iZ, (.int 1), .null] h0 [] (fun v h => v = some iZ) := by
  refine CtrN.intro (L0 := #[vi 0, vi 1, .val .null]) (plainFor_of_name pn4) O0 (own_entry rfl) ?_
  intro p e s m below meth c T0 hy hml hret hlk hnm W0
  refine o_iloadN W0 1 (hb hy d13_0) rfl rfl <| o_ifN W0 4 (hb hy d13_1) (XT.i0_lt_f (by decide)) rfl <| o_iloadN W0 5 (hb hy d13_4) rfl rfl <| o_iloadN W0 6 (hb hy d13_5) rfl rfl <| o_icmpY W0 16 (hb hy d13_6) (XT.ii_lt_t (by decide)) (by decide) rfl <| o_iloadN W0 17 (hb hy d13_16) rfl rfl ?_
  exact o_retI W0 hlk hret (hb hy d13_17) (by decide) (by decide) rfl
theorem rm16 (l : Launch) {Z a0} (hw : HW Z a0) (a1 : Addr) (h0 : Heap) (O0 : Old Z Z.heap.size h0) :
    CtrN l Z mn13 jdk_41_method_11_code 3 (some .int) [] (⟨0, 0, 0, 0⟩ : Room) #[iZ, (.int 1), (.ref a1)] h0 [] (fun v h => v = some iZ) := by
  refine CtrN.intro (L0 := #[vi 0, vi 1, vr a1]) (plainFor_of_name pn4) O0 (own_entry rfl) ?_
  intro p e s m below meth c T0 hy hml hret hlk hnm W0
  refine o_iloadN W0 1 (hb hy d13_0) rfl rfl <| o_ifN W0 4 (hb hy d13_1) (XT.i0_lt_f (by decide)) rfl <| o_iloadN W0 5 (hb hy d13_4) rfl rfl <| o_iloadN W0 6 (hb hy d13_5) rfl rfl <| o_icmpY W0 16 (hb hy d13_6) (XT.ii_lt_t (by decide)) (by decide) rfl <| o_iloadN W0 17 (hb hy d13_16) rfl rfl ?_
  exact o_retI W0 hlk hret (hb hy d13_17) (by decide) (by decide) rfl
theorem rm17 (l : Launch) {Z a0} (hw : HW Z a0) (gF : Value) (h0 : Heap) (O0 : Old Z Z.heap.size h0) (SgF : Sta Z Z.heap s2 s3 s4 gF) (NgF : gF.isRef = true) :
    CtrN l Z mn14 jdk_42_method_155_code 2 none [] (⟨1, 0, 0, 14⟩ : Room) #[iZ, (.int 1)] h0 [] (fun v h => v = none) := by
  refine CtrN.intro (L0 := #[vi 0, vi 1]) (plainFor_of_name pn1) O0 (own_entry rfl) ?_
  intro p e s m below meth c T0 hy hml hret hlk hnm W0
  refine o_iloadN W0 1 (hb hy d12_0) rfl rfl <| o_iloadN W0 2 (hb hy d12_1) rfl rfl ?_
  rcases ref_cases NgF with rfl | ⟨aF1, rfl⟩
  · refine o_getS W0 (w66 hw) Via.refl (SgF.ext W0.ox) 5 (hb hy d12_2) rfl ?_
    intro T2 W2
    refine o_staticC W2 (w68 hw) (w69 hw) (w67 hw) (w70 hw) (by decide) (rm15 l hw  h0 W2.old ) 0 0 0 (by decide) (by rw [hml]; rfl) (lenOf pd9 rfl) [] rfl rfl 8 (hb hy d12_5) rfl rfl rfl all0 tri ?_
    intro v3 T3 h3 lo3 W3 K3 q3
    obtain rfl := q3.2.2
    show Gl _ _ _ _ _ _ _ _ [iZ]
    refine o_pop W3 9 (hb hy d12_8) rfl rfl ?_
    exact o_ret0 W3 hlk hret (hb hy d12_9) (by decide) (by decide) rfl
  · refine o_getS W0 (w66 hw) Via.refl (SgF.ext W0.ox) 5 (hb hy d12_2) rfl ?_
    intro T4 W4
    refine o_staticC W4 (w68 hw) (w69 hw) (w67 hw) (w70 hw) (by decide) (rm16 l hw aF1 h0 W4.old ) 0 0 0 (by decide) (by rw [hml]; rfl) (lenOf pd9 rfl) [] rfl rfl 8 (hb hy d12_5) rfl rfl rfl all0 tri ?_
    intro v5 T5 h5 lo5 W5 K5 q5
    obtain rfl := q5.2.2
    show Gl _ _ _ _ _ _ _ _ [iZ]
    refine o_pop W5 9 (hb hy d12_8) rfl rfl ?_
    exact o_ret0 W5 hlk hret (hb hy d12_9) (by decide) (by decide) rfl
theorem rm18 (l : Launch) {Z a0} (hw : HW Z a0) (gF : Value) (a1 : Addr) (z0 : ClassId) (x1 : Int32) (h0 : Heap) (O0 : Old Z Z.heap.size h0) (z1 : Arv Z h0 a1 z0 .byte 1 [(.int (bB x1))] iZ) (SgF : Sta Z Z.heap s2 s3 s4 gF) (NgF : gF.isRef = true) (hu3 : own_c x1) (hc4 : ¬ ((255 : Int32) < x1)) :
    CtrN l Z mn15 jdk_43_method_2_code 2 (some .char) [] (⟨2, 0, 0, 27⟩ : Room) #[(.ref a1), iZ] h0 [] (fun v h => v = some (.int x1)) := by
  refine CtrN.intro (L0 := #[vr a1, vi 0]) (plainFor_of_name pn5) O0 (own_entry rfl) ?_
  intro p e s m below meth c T0 hy hml hret hlk hnm W0
  refine o_iloadN W0 1 (hb hy d11_0) rfl rfl <| o_aloadN W0 2 (hb hy d11_1) rfl rfl rfl <| o_len W0 z1 3 (hb hy d11_2) rfl ?_
  refine o_staticC W0 (w63 hw) (w64 hw) (w8 hw) (w65 hw) (by decide) (rm17 l hw gF h0 W0.old SgF NgF) 0 0 0 (by decide) (by rw [hml]; rfl) (lenOf pd10 rfl) [] rfl rfl 6 (hb hy d11_3) rfl rfl rfl all0 tri ?_
  intro v1 T1 h1 lo1 W1 K1 q1
  obtain rfl := q1.2.2
  show Gl _ _ _ _ _ _ _ _ []
  refine o_aloadN W1 7 (hb hy d11_6) rfl rfl rfl <| o_iloadN W1 8 (hb hy d11_7) rfl rfl ?_
  have c2 := (z1.keep K1 nin0)
  refine o_baload W1 c2 (x := (bB x1)) (i := 0) (by decide) (by decide) (by decide) rfl 9 (hb hy d11_8) rfl <| o_sipush W1 (v := 255) 12 (hb hy d11_9) (by decide) rfl <| o_iand W1 (v := x1) 13 (hb hy d11_12) (own_lo8 (own_cb hu3 hc4)) rfl <| o_i2c W1 (v := x1) 14 (hb hy d11_13) (own_i2cc hu3) rfl ?_
  exact o_retN W1 hlk (t := .char) hret (by simp) (z' := x1) (own_i2cc hu3) (hb hy d11_14) (by decide) (by decide) rfl
theorem rm19 (l : Launch) {Z a0} (hw : HW Z a0) (gCS : Int32) (gF : Value) (a1 a2 : Addr) (z0 : ClassId) (x1 : Int32) (h0 : Heap) (O0 : Old Z Z.heap.size h0) (z1 : Exa Z h0 a1 s0) (SgCS : Sta Z Z.heap s0 s8 "Z" (.int gCS)) (NgCS : ¬ (gCS = (0 : Int32))) (z2 : Fld Z h0 a1 s0 "coder" "B" iZ) (z3 : Fld Z h0 a1 s0 "value" "[B" (.ref a2)) (z4 : Arv Z h0 a2 z0 .byte 1 [(.int (bB x1))] iZ) (SgF : Sta Z Z.heap s2 s3 s4 gF) (NgF : gF.isRef = true) (hu5 : own_c x1) (hc6 : ¬ ((255 : Int32) < x1)) :
    CtrN l Z mn2 jdk_42_method_56_code 2 (some .char) [] (⟨5, 0, 0, 70⟩ : Room) #[(.ref a1), iZ] h0 [] (fun v h => v = some (.int x1)) := by
  refine CtrN.intro (L0 := #[vr a1, vi 0]) (plainFor_of_name pn1) O0 (own_entry rfl) ?_
  intro p e s m below meth c T0 hy hml hret hlk hnm W0
  refine o_aloadN W0 1 (hb hy d9_0) rfl rfl rfl ?_
  refine o_virtualC W0 (w54 hw) (w55 hw) (o_nf W0 rfl (w57 hw)) (w57 hw) (w56 hw) (by decide) z1 (w58 hw) (w8 hw) (rm14 l hw gCS a1 h0 W0.old SgCS NgCS z2) 0 0 0 (by decide) (by rw [hml]; rfl) (lenOf pd3 rfl) [] rfl rfl 4 (hb hy d9_1) rfl rfl rfl all0 tri ?_
  intro v1 T1 h1 lo1 W1 K1 q1
  obtain rfl := q1.2.2
  show Gl _ _ _ _ _ _ _ _ [(.int 1)]
  refine o_ifN W1 7 (hb hy d9_4) (XT.i0_eq_f (by decide)) rfl <| o_aloadN W1 8 (hb hy d9_7) rfl rfl rfl ?_
  have c2 := (z3.keep K1 nin0)
  refine o_getF W1 (w25 hw) Via.refl c2 11 (hb hy d9_8) rfl ?_
  intro T3 W3
  refine o_iloadN W3 12 (hb hy d9_11) rfl rfl ?_
  have c4 := (z4.keep K1 nin0)
  refine o_staticC W3 (w59 hw) (w60 hw) (w61 hw) (w62 hw) (by decide) (rm18 l hw gF a2 z0 x1 h1 W3.old c4 SgF NgF hu5 hc6) 0 0 0 (by decide) (by rw [hml]; rfl) (lenOf pd11 rfl) [] rfl rfl 15 (hb hy d9_12) rfl rfl rfl all0 tri ?_
  intro v7 T7 h7 lo7 W7 K7 q7
  obtain rfl := q7.2.2
  show Gl _ _ _ _ _ _ _ _ [(.int x1)]
  exact o_retN W7 hlk (t := .char) hret (by simp) (z' := x1) (own_i2cc hu5) (hb hy d9_15) (by decide) (by decide) rfl
theorem rm20 (l : Launch) {Z a0} (hw : HW Z a0) (a1 a2 : Addr) (z0 : ClassId) (x1 : Int32) (h0 : Heap) (O0 : Old Z Z.heap.size h0) (z1 : Arv Z h0 a1 z0 .char 1 [(.int x1)] iZ) (hu1 : own_c x1) (hc2 : (255 : Int32) < x1) :
    CtrN l Z mn8 jdk_52_method_21_code 7 (some .int) [] (⟨0, 0, 0, 0⟩ : Room) #[(.ref a1), iZ, (.ref a2), iZ, (.int 1)] h0 [] (fun v h => v = some iZ) := by
  refine CtrN.intro (L0 := #[vr a1, vi 0, vr a2, vi 0, vi 1, un, un]) (plainFor_of_name pn3) O0 (own_entry rfl) ?_
  intro p e s m below meth c T0 hy hml hret hlk hnm W0
  refine o_iconst W0 (v := 0) 1 (hb hy d15_0) rfl rfl <| o_istore W0 (L' := #[vr a1, vi 0, vr a2, vi 0, vi 1, vi 0, un]) 3 (hb hy d15_1) rfl rfl <| o_iload W0 5 (hb hy d15_3) rfl rfl <| o_iload W0 7 (hb hy d15_5) rfl rfl <| o_icmpN W0 10 (hb hy d15_7) (XT.ii_ge_f (by decide)) rfl <| o_aloadN W0 11 (hb hy d15_10) rfl rfl rfl ?_
  refine o_iloadN W0 12 (hb hy d15_11) rfl rfl <| o_caload W0 z1 (x := x1) (i := 0) (by decide) (by decide) (by decide) rfl 13 (hb hy d15_12) rfl <| o_istore W0 (L' := #[vr a1, vi 0, vr a2, vi 0, vi 1, vi 0, vi x1]) 15 (hb hy d15_13) rfl rfl <| o_iload W0 17 (hb hy d15_15) rfl rfl <| o_sipush W0 (v := 255) 20 (hb hy d15_17) (by decide) rfl <| o_icmpN W0 23 (hb hy d15_20) (XT.ii_le_f hc2) rfl ?_
  refine o_iload W0 25 (hb hy d15_23) rfl rfl ?_
  exact o_retI W0 hlk hret (hb hy d15_25) (by decide) (by decide) rfl
theorem rm21 (l : Launch) {Z a0} (hw : HW Z a0)  (h0 : Heap) (O0 : Old Z Z.heap.size h0) :
    CtrN l Z mn16 jdk_52_method_3_code 1 (some .int) [] (⟨0, 0, 0, 0⟩ : Room) #[(.int 1)] h0 [] (fun v h => v = some (.int 2)) := by
  refine CtrN.intro (L0 := #[vi 1]) (plainFor_of_name pn3) O0 (own_entry rfl) ?_
  intro p e s m below meth c T0 hy hml hret hlk hnm W0
  refine o_iloadN W0 1 (hb hy d20_0) rfl rfl <| o_ifY W0 12 (hb hy d20_1) (XT.i0_ge_t (by decide)) (by decide) rfl <| o_iloadN W0 13 (hb hy d20_12) rfl rfl <| o_ldcI W0 (w93 hw) 15 (hb hy d20_13) rfl <| o_icmpY W0 55 (hb hy d20_15) (XT.ii_lt_t (by decide)) (by decide) rfl <| o_iloadN W0 56 (hb hy d20_55) rfl rfl ?_
  refine o_iconst W0 (v := 1) 57 (hb hy d20_56) rfl rfl <| o_ishl W0 (v := 2) 58 (hb hy d20_57) (by decide) rfl ?_
  exact o_retI W0 hlk hret (hb hy d20_58) (by decide) (by decide) rfl
theorem rm22 (l : Launch) {Z a0} (hw : HW Z a0)  (h0 : Heap) (O0 : Old Z Z.heap.size h0) :
    CtrN l Z mn17 jdk_52_method_2_code 1 (some (.array .byte)) [] (⟨1, 1, 2, 12⟩ : Room) #[(.int 1)] h0 [] (fun v h => ∃ r1 : Addr, ∃ r2 : ClassId, h0.size ≤ r1 ∧ Arv Z h r1 r2 .byte 2 [iZ, iZ] iZ ∧ v = some (.ref r1)) := by
  refine CtrN.intro (L0 := #[vi 1]) (plainFor_of_name pn3) O0 (own_entry rfl) ?_
  intro p e s m below meth c T0 hy hml hret hlk hnm W0
  refine o_iloadN W0 1 (hb hy d19_0) rfl rfl ?_
  refine o_staticC W0 (w90 hw) (w91 hw) (w73 hw) (w92 hw) (by decide) (rm21 l hw  h0 W0.old ) 0 0 0 (by decide) (by rw [hml]; rfl) (lenOf pd12 rfl) [] rfl rfl 4 (hb hy d19_1) rfl rfl rfl all0 tri ?_
  intro v1 T1 h1 lo1 W1 K1 q1
  obtain rfl := q1.2.2
  show Gl _ _ _ _ _ _ _ _ [(.int 2)]
  refine o_newP W1 (aty := .byte) (w20 hw) tri (by decide) (cap := 2) (by decide) (by decide) 6 (hb hy d19_4) rfl (cells' := 1) (slots' := 2) rfl rfl (by decide) (by decide) (vs := [iZ, iZ]) (dv := iZ) rfl rfl ?_
  intro b2 T2 h2 k2 W2 E2 ge2 gz2 gb2 V2
  exact o_retA W2 hlk (v := (.ref b2)) hret rfl rfl (hb hy d19_6) (by decide) (by decide) ⟨b2, k2, gb2, V2, rfl⟩
theorem rm23 (l : Launch) {Z a0} (hw : HW Z a0) (a1 : Addr) (x1 : Int32) (z0 : ClassId) (h0 : Heap) (O0 : Old Z Z.heap.size h0) (z1 : Sta Z Z.heap s1 s5 "Z" (.int 1)) (z2 : Sta Z Z.heap s1 s6 "I" iZ) (z3 : Arv Z h0 a1 z0 .byte 2 [iZ, iZ] iZ) (z4 : Z.heap.size ≤ a1) (z5 : Sta Z Z.heap s1 s7 "I" (.int 8)) :
    CtrN l Z mn18 jdk_52_method_4_code 3 none [] (⟨0, 0, 0, 0⟩ : Room) #[(.ref a1), iZ, (.int x1)] h0 [a1] (fun v h => Arv Z h a1 z0 .byte 2 [(.int (bH x1)), (.int (bL x1))] iZ ∧ v = none) := by
  refine CtrN.intro (L0 := #[vr a1, vi 0, vi x1]) (plainFor_of_name pn3) O0 (own_entry rfl) ?_
  intro p e s m below meth c T0 hy hml hret hlk hnm W0
  refine o_getS W0 (w97 hw) Via.refl (z1.ext W0.ox) 3 (hb hy d21_0) rfl ?_
  intro T1 W1
  refine o_ifY W1 28 (hb hy d21_3) (XT.i0_ne_t (by decide)) (by decide) rfl <| o_iloadN W1 29 (hb hy d21_28) rfl rfl <| o_iconst W1 (v := 1) 30 (hb hy d21_29) rfl rfl <| o_ishl W1 (v := 0) 31 (hb hy d21_30) (by decide) rfl <| o_istoreN W1 (L' := #[vr a1, vi 0, vi x1]) 32 (hb hy d21_31) rfl rfl <| o_aloadN W1 33 (hb hy d21_32) rfl rfl rfl ?_
  refine o_iloadN W1 34 (hb hy d21_33) rfl rfl <| o_iinc W1 (v := 1) (L' := #[vr a1, vi 1, vi x1]) 37 (hb hy d21_34) rfl (by decide) rfl rfl <| o_iloadN W1 38 (hb hy d21_37) rfl rfl ?_
  refine o_getS W1 (w98 hw) Via.refl (z2.ext W1.ox) 41 (hb hy d21_38) rfl ?_
  intro T2 W2
  refine o_ishr W2 (v := (x1 >>> ((0 : Int32) &&& 31))) 42 (hb hy d21_41) rfl rfl <| o_i2b W2 (v := (bH x1)) 43 (hb hy d21_42) rfl rfl ?_
  refine o_stB W2 z3 (i := 0) (x' := (bH x1)) (by decide) (by decide) (by decide) (Nat.lt_of_sub_eq_succ rfl) (own_b8 _) (vs' := [(.int (bH x1)), iZ]) rfl z4 m0 tri 44 (hb hy d21_43) rfl ?_
  intro T3 h3 lo3 W3 R3 V3
  refine o_aloadN W3 45 (hb hy d21_44) rfl rfl rfl <| o_iloadN W3 46 (hb hy d21_45) rfl rfl <| o_iloadN W3 47 (hb hy d21_46) rfl rfl ?_
  refine o_getS W3 (w99 hw) Via.refl (z5.ext W3.ox) 50 (hb hy d21_47) rfl ?_
  intro T4 W4
  refine o_ishr W4 (v := (x1 >>> ((8 : Int32) &&& 31))) 51 (hb hy d21_50) rfl rfl <| o_i2b W4 (v := (bL x1)) 52 (hb hy d21_51) rfl rfl ?_
  refine o_stB W4 V3 (i := 1) (x' := (bL x1)) (by decide) (by decide) (by decide) (Nat.lt_of_sub_eq_succ rfl) (own_b8 _) (vs' := [(.int (bH x1)), (.int (bL x1))]) rfl z4 m0 tri 53 (hb hy d21_52) rfl ?_
  intro T5 h5 lo5 W5 R5 V5
  exact o_ret0 W5 hlk hret (hb hy d21_53) (by decide) (by decide) ⟨V5, rfl⟩
theorem rm24 (l : Launch) {Z a0} (hw : HW Z a0) (a1 : Addr) (z0 : ClassId) (x1 : Int32) (h0 : Heap) (O0 : Old Z Z.heap.size h0) (z1 : Arv Z h0 a1 z0 .char 1 [(.int x1)] iZ) (z2 : Sta Z Z.heap s1 s5 "Z" (.int 1)) (z3 : Sta Z Z.heap s1 s6 "I" iZ) (z4 : Sta Z Z.heap s1 s7 "I" (.int 8)) :
    CtrN l Z mn19 jdk_52_method_14_code 5 (some (.array .byte)) [] (⟨2, 1, 2, 24⟩ : Room) #[(.ref a1), iZ, (.int 1)] h0 [] (fun v h => ∃ r1 : Addr, ∃ r2 : ClassId, h0.size ≤ r1 ∧ Arv Z h r1 r2 .byte 2 [(.int (bH x1)), (.int (bL x1))] iZ ∧ v = some (.ref r1)) := by
  refine CtrN.intro (L0 := #[vr a1, vi 0, vi 1, un, un]) (plainFor_of_name pn3) O0 (own_entry rfl) ?_
  intro p e s m below meth c T0 hy hml hret hlk hnm W0
  refine o_iloadN W0 1 (hb hy d18_0) rfl rfl ?_
  refine o_staticC W0 (w87 hw) (w88 hw) (w73 hw) (w89 hw) (by decide) (rm22 l hw  h0 W0.old ) 0 1 2 (by decide) (by rw [hml]; rfl) (lenOf pd13 rfl) [] rfl rfl 4 (hb hy d18_1) rfl rfl rfl all0 tri ?_
  intro v1 T1 h1 lo1 W1 K1 q1
  obtain ⟨r1_1, r2_1, P1_0, P1_1, rfl⟩ := q1.2.2
  show Gl _ _ _ _ _ _ _ _ [(.ref r1_1)]
  refine o_astoreN W1 (L' := #[vr a1, vi 0, vi 1, vr r1_1, un]) 5 (hb hy d18_4) rfl rfl rfl <| o_iconst W1 (v := 0) 6 (hb hy d18_5) rfl rfl <| o_istore W1 (L' := #[vr a1, vi 0, vi 1, vr r1_1, vi 0]) 8 (hb hy d18_6) rfl rfl <| o_iload W1 10 (hb hy d18_8) rfl rfl <| o_iloadN W1 11 (hb hy d18_10) rfl rfl <| o_icmpN W1 14 (hb hy d18_11) (XT.ii_ge_f (by decide)) rfl ?_
  refine o_aloadN W1 15 (hb hy d18_14) rfl rfl rfl <| o_iload W1 17 (hb hy d18_15) rfl rfl <| o_aloadN W1 18 (hb hy d18_17) rfl rfl rfl <| o_iloadN W1 19 (hb hy d18_18) rfl rfl ?_
  have c2 := (z1.keep K1 nin0)
  refine o_caload W1 c2 (x := x1) (i := 0) (by decide) (by decide) (by decide) rfl 20 (hb hy d18_19) rfl ?_
  refine o_staticC W1 (w94 hw) (w95 hw) (w73 hw) (w96 hw) (by decide) (rm23 l hw r1_1 x1 r2_1 h1 W1.old z2 z3 P1_1 (Nat.le_trans W0.zs P1_0) z4) 0 1 2 (by decide) (by rw [hml]; rfl) (lenOf pd14 rfl) [] rfl rfl 23 (hb hy d18_20) rfl rfl rfl (allS ⟨(Nat.le_trans W0.zs P1_0), (Or.inr (Nat.le_trans W0.keep.1 P1_0))⟩ all0) tri ?_
  intro v3 T3 h3 lo3 W3 K3 q3
  obtain ⟨P3_0, rfl⟩ := q3.2.2
  show Gl _ _ _ _ _ _ _ _ []
  refine o_iinc W3 (v := 1) (L' := #[vr a1, vi 1, vi 1, vr r1_1, vi 0]) 26 (hb hy d18_23) rfl (by decide) rfl rfl <| o_iinc W3 (v := 1) (L' := #[vr a1, vi 1, vi 1, vr r1_1, vi 1]) 29 (hb hy d18_26) rfl (by decide) rfl rfl <| o_goto W3 8 (hb hy d18_29) (by decide) rfl <| o_iload W3 10 (hb hy d18_8) rfl rfl <| o_iloadN W3 11 (hb hy d18_10) rfl rfl <| o_icmpY W3 32 (hb hy d18_11) (XT.ii_ge_t (by decide)) (by decide) rfl ?_
  refine o_aloadN W3 33 (hb hy d18_32) rfl rfl rfl ?_
  exact o_retA W3 hlk (v := (.ref r1_1)) hret rfl rfl (hb hy d18_33) (by decide) (by decide) ⟨r1_1, r2_1, (Nat.le_trans W0.keep.1 P1_0), P3_0, rfl⟩
theorem rm25 (l : Launch) {Z a0} (hw : HW Z a0) (a1 : Addr) (z0 : ClassId) (x1 : Int32) (h0 : Heap) (O0 : Old Z Z.heap.size h0) (z1 : Sta Z Z.heap s1 s5 "Z" (.int 1)) (z2 : Arv Z h0 a1 z0 .byte 2 [(.int (bH x1)), (.int (bL x1))] iZ) (z3 : Sta Z Z.heap s1 s6 "I" iZ) (z4 : Sta Z Z.heap s1 s7 "I" (.int 8)) (hu4 : own_c x1) :
    CtrN l Z mn20 jdk_52_method_5_code 2 (some .char) [] (⟨0, 0, 0, 0⟩ : Room) #[(.ref a1), iZ] h0 [] (fun v h => v = some (.int x1)) := by
  refine CtrN.intro (L0 := #[vr a1, vi 0]) (plainFor_of_name pn3) O0 (own_entry rfl) ?_
  intro p e s m below meth c T0 hy hml hret hlk hnm W0
  refine o_getS W0 (w97 hw) Via.refl (z1.ext W0.ox) 3 (hb hy d22_0) rfl ?_
  intro T1 W1
  refine o_ifY W1 28 (hb hy d22_3) (XT.i0_ne_t (by decide)) (by decide) rfl <| o_iloadN W1 29 (hb hy d22_28) rfl rfl <| o_iconst W1 (v := 1) 30 (hb hy d22_29) rfl rfl <| o_ishl W1 (v := 0) 31 (hb hy d22_30) (by decide) rfl <| o_istoreN W1 (L' := #[vr a1, vi 0]) 32 (hb hy d22_31) rfl rfl <| o_aloadN W1 33 (hb hy d22_32) rfl rfl rfl ?_
  refine o_iloadN W1 34 (hb hy d22_33) rfl rfl <| o_iinc W1 (v := 1) (L' := #[vr a1, vi 1]) 37 (hb hy d22_34) rfl (by decide) rfl rfl <| o_baload W1 z2 (x := (bH x1)) (i := 0) (by decide) (by decide) (by decide) rfl 38 (hb hy d22_37) rfl <| o_sipush W1 (v := 255) 41 (hb hy d22_38) (by decide) rfl <| o_iand W1 (v := ((bH x1) &&& 255)) 42 (hb hy d22_41) rfl rfl ?_
  refine o_getS W1 (w98 hw) Via.refl (z3.ext W1.ox) 45 (hb hy d22_42) rfl ?_
  intro T2 W2
  refine o_ishl W2 (v := (((bH x1) &&& 255) <<< ((0 : Int32) &&& 31))) 46 (hb hy d22_45) rfl rfl <| o_aloadN W2 47 (hb hy d22_46) rfl rfl rfl <| o_iloadN W2 48 (hb hy d22_47) rfl rfl <| o_baload W2 z2 (x := (bL x1)) (i := 1) (by decide) (by decide) (by decide) rfl 49 (hb hy d22_48) rfl <| o_sipush W2 (v := 255) 52 (hb hy d22_49) (by decide) rfl <| o_iand W2 (v := ((bL x1) &&& 255)) 53 (hb hy d22_52) rfl rfl ?_
  refine o_getS W2 (w99 hw) Via.refl (z4.ext W2.ox) 56 (hb hy d22_53) rfl ?_
  intro T3 W3
  refine o_ishl W3 (v := (((bL x1) &&& 255) <<< ((8 : Int32) &&& 31))) 57 (hb hy d22_56) rfl rfl <| o_ior W3 (v := ((((bH x1) &&& 255) <<< ((0 : Int32) &&& 31)) ||| (((bL x1) &&& 255) <<< ((8 : Int32) &&& 31)))) 58 (hb hy d22_57) rfl rfl <| o_i2c W3 (v := x1) 59 (hb hy d22_58) (own_join hu4) rfl ?_
  exact o_retN W3 hlk (t := .char) hret (by simp) (z' := x1) (own_i2cc hu4) (hb hy d22_59) (by decide) (by decide) rfl
theorem rm26 (l : Launch) {Z a0} (hw : HW Z a0) (a1 : Addr) (z0 : ClassId) (x1 : Int32) (h0 : Heap) (O0 : Old Z Z.heap.size h0) (z1 : Arv Z h0 a1 z0 .char 1 [(.int x1)] iZ) (hu3 : own_c x1) (hc4 : (255 : Int32) < x1) (z2 : Sta Z Z.heap s1 s5 "Z" (.int 1)) (z3 : Sta Z Z.heap s1 s6 "I" iZ) (z4 : Sta Z Z.heap s1 s7 "I" (.int 8)) :
    CtrN l Z mn9 jdk_52_method_16_code 6 (some (.array .byte)) [] (⟨3, 2, 3, 40⟩ : Room) #[(.ref a1), iZ, (.int 1)] h0 [] (fun v h => ∃ r1 : Addr, ∃ r2 : ClassId, h0.size ≤ r1 ∧ Arv Z h r1 r2 .byte 2 [(.int (bH x1)), (.int (bL x1))] iZ ∧ v = some (.ref r1)) := by
  refine CtrN.intro (L0 := #[vr a1, vi 0, vi 1, un, un, un]) (plainFor_of_name pn3) O0 (own_entry rfl) ?_
  intro p e s m below meth c T0 hy hml hret hlk hnm W0
  refine o_iloadN W0 1 (hb hy d14_0) rfl rfl ?_
  refine o_newP W0 (aty := .byte) (w20 hw) tri (by decide) (cap := 1) (by decide) (by decide) 3 (hb hy d14_1) rfl (cells' := 1) (slots' := 1) rfl rfl (by decide) (by decide) (vs := [iZ]) (dv := iZ) rfl rfl ?_
  intro b1 T1 h1 k1 W1 E1 ge1 gz1 gb1 V1
  refine o_astoreN W1 (L' := #[vr a1, vi 0, vi 1, vr b1, un, un]) 4 (hb hy d14_3) rfl rfl rfl <| o_aloadN W1 5 (hb hy d14_4) rfl rfl rfl <| o_iloadN W1 6 (hb hy d14_5) rfl rfl <| o_aloadN W1 7 (hb hy d14_6) rfl rfl rfl <| o_iconst W1 (v := 0) 8 (hb hy d14_7) rfl rfl <| o_iloadN W1 9 (hb hy d14_8) rfl rfl ?_
  have c2 := (z1.ext E1)
  refine o_staticC W1 (w75 hw) (w76 hw) (w73 hw) (w77 hw) (by decide) (rm20 l hw a1 b1 z0 x1 h1 W1.old c2 hu3 hc4) 0 1 1 (by decide) (by rw [hml]; rfl) (lenOf pd5 rfl) [] rfl rfl 12 (hb hy d14_9) rfl rfl rfl all0 tri ?_
  intro v5 T5 h5 lo5 W5 K5 q5
  obtain rfl := q5.2.2
  show Gl _ _ _ _ _ _ _ _ [iZ]
  refine o_istore W5 (L' := #[vr a1, vi 0, vi 1, vr b1, vi 0, un]) 14 (hb hy d14_12) rfl rfl <| o_iload W5 16 (hb hy d14_14) rfl rfl <| o_iloadN W5 17 (hb hy d14_16) rfl rfl <| o_icmpN W5 20 (hb hy d14_17) (XT.ii_eq_f (by decide)) rfl <| o_aloadN W5 21 (hb hy d14_20) rfl rfl rfl <| o_iloadN W5 22 (hb hy d14_21) rfl rfl ?_
  refine o_iloadN W5 23 (hb hy d14_22) rfl rfl ?_
  have c6 := (c2.keep K5 nin0)
  refine o_staticC W5 (w84 hw) (w85 hw) (w73 hw) (w86 hw) (by decide) (rm24 l hw a1 z0 x1 h5 W5.old c6 z2 z3 z4) 0 2 3 (by decide) (by rw [hml]; rfl) (lenOf pd6 rfl) [] rfl rfl 26 (hb hy d14_23) rfl rfl rfl all0 tri ?_
  intro v7 T7 h7 lo7 W7 K7 q7
  obtain ⟨r1_7, r2_7, P7_0, P7_1, rfl⟩ := q7.2.2
  show Gl _ _ _ _ _ _ _ _ [(.ref r1_7)]
  refine o_astore W7 (L' := #[vr a1, vi 0, vi 1, vr b1, vi 0, vr r1_7]) 28 (hb hy d14_26) rfl rfl rfl <| o_aload W7 30 (hb hy d14_28) rfl rfl rfl <| o_iload W7 32 (hb hy d14_30) rfl rfl ?_
  refine o_staticC W7 (w100 hw) (w101 hw) (w73 hw) (w102 hw) (by decide) (rm25 l hw r1_7 r2_7 x1 h7 W7.old z2 P7_1 z3 z4 hu3) 0 2 3 (by decide) (by rw [hml]; rfl) (lenOf pd11 rfl) [] rfl rfl 35 (hb hy d14_32) rfl rfl rfl all0 tri ?_
  intro v8 T8 h8 lo8 W8 K8 q8
  obtain rfl := q8.2.2
  show Gl _ _ _ _ _ _ _ _ [(.int x1)]
  refine o_sipush W8 (v := 255) 38 (hb hy d14_35) (by decide) rfl <| o_icmpY W8 54 (hb hy d14_38) (XT.ii_gt_t hc4) (by decide) rfl <| o_aload W8 56 (hb hy d14_54) rfl rfl rfl ?_
  have c9 := (P7_1.keep K8 nin0)
  exact o_retA W8 hlk (v := (.ref r1_7)) hret rfl rfl (hb hy d14_56) (by decide) (by decide) ⟨r1_7, r2_7, (Nat.le_trans W5.keep.1 P7_0), c9, rfl⟩
theorem rm27 (l : Launch) {Z a0} (hw : HW Z a0) (a1 : Addr) (z0 : ClassId) (x1 : Int32) (h0 : Heap) (O0 : Old Z Z.heap.size h0) (z1 : Arv Z h0 a1 z0 .byte 2 [(.int (bH x1)), (.int (bL x1))] iZ) :
    CtrN l Z mn10 jdk_52_method_15_code 2 (some .byte) [] (⟨0, 0, 0, 0⟩ : Room) #[(.ref a1), (.int 1)] h0 [] (fun v h => v = some (.int 1)) := by
  refine CtrN.intro (L0 := #[vr a1, vi 1]) (plainFor_of_name pn3) O0 (own_entry rfl) ?_
  intro p e s m below meth c T0 hy hml hret hlk hnm W0
  refine o_iloadN W0 1 (hb hy d16_0) rfl rfl <| o_aloadN W0 2 (hb hy d16_1) rfl rfl rfl <| o_len W0 z1 3 (hb hy d16_2) rfl <| o_isub W0 (v := (-1 : Int32)) 4 (hb hy d16_3) (by decide) rfl <| o_bipush W0 (v := 31) 6 (hb hy d16_4) (by decide) rfl <| o_iushr W0 (v := 1) 7 (hb hy d16_6) (by decide) rfl ?_
  refine o_i2b W0 (v := 1) 8 (hb hy d16_7) (by decide) rfl ?_
  exact o_retN W0 hlk (t := .byte) hret (by simp) (z' := (1 : Int32)) (by decide) (hb hy d16_8) (by decide) (by decide) rfl
theorem rm28 (l : Launch) {Z a0} (hw : HW Z a0) (gCS : Int32) (a1 a2 : Addr) (z0 : ClassId) (x1 : Int32) (h0 : Heap) (O0 : Old Z Z.heap.size h0) (SgCS : Sta Z Z.heap s0 s8 "Z" (.int gCS)) (NgCS : ¬ (gCS = (0 : Int32))) (z1 : Arv Z h0 a2 z0 .char 1 [(.int x1)] iZ) (hu3 : own_c x1) (hc4 : (255 : Int32) < x1) (z2 : Sta Z Z.heap s1 s5 "Z" (.int 1)) (z3 : Sta Z Z.heap s1 s6 "I" iZ) (z4 : Sta Z Z.heap s1 s7 "I" (.int 8)) (z5 : Exa Z h0 a1 s0) (z6 : Fld Z h0 a1 s0 "coder" "B" iZ) (z7 : Z.heap.size ≤ a1) (z8 : Fld Z h0 a1 s0 "value" "[B" .null) :
    CtrN l Z mn5 jdk_42_method_149_code 6 none [] (⟨4, 2, 3, 57⟩ : Room) #[(.ref a1), (.ref a2), iZ, (.int 1), .null] h0 [a1] (fun v h => ∃ r1 : Addr, ∃ r2 : ClassId, h0.size ≤ r1 ∧ Fld Z h a1 s0 "coder" "B" (.int 1) ∧ Fld Z h a1 s0 "value" "[B" (.ref r1) ∧ Arv Z h r1 r2 .byte 2 [(.int (bH x1)), (.int (bL x1))] iZ ∧ v = none) := by
  refine CtrN.intro (L0 := #[vr a1, vr a2, vi 0, vi 1, .val .null, un]) (plainFor_of_name pn1) O0 (own_entry rfl) ?_
  intro p e s m below meth c T0 hy hml hret hlk hnm W0
  refine o_aloadN W0 1 (hb hy d3_0) rfl rfl rfl ?_
  refine o_initO W0 (w16 hw) (w17 hw) (w18 hw) (by rw [hml]; rfl) 4 (hb hy d3_1) rfl (by decide) 0 (by exact Nat.le_of_eq rfl) (by decide) ?_
  intro T1 W1
  refine o_iloadN W1 5 (hb hy d3_4) rfl rfl <| o_ifY W1 27 (hb hy d3_5) (XT.i0_ne_t (by decide)) (by decide) rfl ?_
  refine o_getS W1 (w48 hw) Via.refl (SgCS.ext W1.ox) 30 (hb hy d3_27) rfl ?_
  intro T2 W2
  refine o_ifN W2 33 (hb hy d3_30) (XT.i0_eq_f NgCS) rfl <| o_aloadN W2 34 (hb hy d3_33) rfl rfl rfl <| o_iloadN W2 35 (hb hy d3_34) rfl rfl <| o_iloadN W2 36 (hb hy d3_35) rfl rfl ?_
  refine o_staticC W2 (w71 hw) (w72 hw) (w73 hw) (w74 hw) (by decide) (rm26 l hw a2 z0 x1 h0 W2.old z1 hu3 hc4 z2 z3 z4) 0 2 3 (by decide) (by rw [hml]; rfl) (lenOf pd6 rfl) [] rfl rfl 39 (hb hy d3_36) rfl rfl rfl all0 tri ?_
  intro v5 T5 h5 lo5 W5 K5 q5
  obtain ⟨r1_5, r2_5, P5_0, P5_1, rfl⟩ := q5.2.2
  show Gl _ _ _ _ _ _ _ _ [(.ref r1_5)]
  refine o_astore W5 (L' := #[vr a1, vr a2, vi 0, vi 1, .val .null, vr r1_5]) 41 (hb hy d3_39) rfl rfl rfl <| o_aloadN W5 42 (hb hy d3_41) rfl rfl rfl <| o_aload W5 44 (hb hy d3_42) rfl rfl rfl <| o_iloadN W5 45 (hb hy d3_44) rfl rfl ?_
  refine o_staticC W5 (w78 hw) (w79 hw) (w73 hw) (w80 hw) (by decide) (rm27 l hw r1_5 r2_5 x1 h5 W5.old P5_1) 1 2 3 (by decide) (by rw [hml]; rfl) (lenOf pd7 rfl) [(.ref a1)] rfl rfl 48 (hb hy d3_45) rfl rfl rfl all0 tri ?_
  intro v6 T6 h6 lo6 W6 K6 q6
  obtain rfl := q6.2.2
  show Gl _ _ _ _ _ _ _ _ [(.int 1), (.ref a1)]
  have c7 := ((z5.keep K5).keep K6)
  have c8 := ((z6.keep K5 nin0).keep K6 nin0)
  refine o_putF W6 (w26 hw) Via.refl c8 c7 (Or.inr ⟨(w22 hw), rfl, hnm⟩) (w7 hw) (ty := .byte) (v' := (.int 1)) (by decide) rfl (by decide) z7 m0 tri 51 (hb hy d3_48) rfl ?_
  intro T9 h9 lo9 W9 R9
  have F9 := c8.same R9
  refine o_aloadN W9 52 (hb hy d3_51) rfl rfl rfl <| o_aload W9 54 (hb hy d3_52) rfl rfl rfl ?_
  have c10 := (c7.wr R9)
  have c11 := (((z8.keep K5 nin0).keep K6 nin0).other R9 (Or.inr (slot_ne (Or.inr (w21 hw)) (Or.inr (w22 hw)) (by decide) (t := (.array .byte)) (t' := .byte) (by decide) (by decide))))
  refine o_putF W9 (w25 hw) Via.refl c11 c10 (Or.inr ⟨(w21 hw), rfl, hnm⟩) (w7 hw) (ty := (.array .byte)) (v' := (.ref r1_5)) (by decide) rfl rfl z7 m0 tri 57 (hb hy d3_54) rfl ?_
  intro T12 h12 lo12 W12 R12
  have F12 := c11.same R12
  have c13 := (F9.other R12 (Or.inr (slot_ne (Or.inr (w22 hw)) (Or.inr (w21 hw)) (by decide) (t := .byte) (t' := (.array .byte)) (by decide) (by decide))))
  have c14 := (c10.wr R12)
  have c15 := (((P5_1.keep K6 nin0).other R9 (own_ne' z5.lt P5_0)).other R12 (own_ne' z5.lt P5_0))
  exact o_ret0 W12 hlk hret (hb hy d3_57) (by decide) (by decide) ⟨r1_5, r2_5, (Nat.le_trans W2.keep.1 P5_0), c13, F12, c15, rfl⟩
theorem rm29 (l : Launch) {Z a0} (hw : HW Z a0) (a1 a2 : Addr) (z0 : ClassId) (x1 : Int32) (h0 : Heap) (O0 : Old Z Z.heap.size h0) (z1 : Fld Z h0 a1 s0 "value" "[B" (.ref a2)) (z2 : Arv Z h0 a2 z0 .byte 2 [(.int (bH x1)), (.int (bL x1))] iZ) :
    CtrN l Z mn0 jdk_42_method_55_code 1 (some .boolean) [] (⟨0, 0, 0, 0⟩ : Room) #[(.ref a1)] h0 [] (fun v h => v = some iZ) := by
  refine CtrN.intro (L0 := #[vr a1]) (plainFor_of_name pn1) O0 (own_entry rfl) ?_
  intro p e s m below meth c T0 hy hml hret hlk hnm W0
  refine o_aloadN W0 1 (hb hy d6_0) rfl rfl rfl ?_
  refine o_getF W0 (w25 hw) Via.refl z1 4 (hb hy d6_1) rfl ?_
  intro T1 W1
  refine o_len W1 z2 5 (hb hy d6_4) rfl <| o_ifY W1 12 (hb hy d6_5) (XT.i0_ne_t (by decide)) (by decide) rfl <| o_iconst W1 (v := 0) 13 (hb hy d6_12) rfl rfl ?_
  exact o_retN W1 hlk (t := .boolean) hret (by simp) (z' := (0 : Int32)) (by decide) (hb hy d6_13) (by decide) (by decide) rfl
theorem rm30 (l : Launch) {Z a0} (hw : HW Z a0) (gCS : Int32) (a1 : Addr) (h0 : Heap) (O0 : Old Z Z.heap.size h0) (SgCS : Sta Z Z.heap s0 s8 "Z" (.int gCS)) (NgCS : ¬ (gCS = (0 : Int32))) (z0 : Fld Z h0 a1 s0 "coder" "B" (.int 1)) :
    CtrN l Z mn11 jdk_42_method_152_code 1 (some .byte) [] (⟨0, 0, 0, 0⟩ : Room) #[(.ref a1)] h0 [] (fun v h => v = some (.int 1)) := by
  refine CtrN.intro (L0 := #[vr a1]) (plainFor_of_name pn1) O0 (own_entry rfl) ?_
  intro p e s m below meth c T0 hy hml hret hlk hnm W0
  refine o_getS W0 (w48 hw) Via.refl (SgCS.ext W0.ox) 3 (hb hy d8_0) rfl ?_
  intro T1 W1
  refine o_ifN W1 6 (hb hy d8_3) (XT.i0_eq_f NgCS) rfl <| o_aloadN W1 7 (hb hy d8_6) rfl rfl rfl ?_
  refine o_getF W1 (w26 hw) Via.refl z0 10 (hb hy d8_7) rfl ?_
  intro T2 W2
  refine o_goto W2 14 (hb hy d8_10) (by decide) rfl ?_
  exact o_retN W2 hlk (t := .byte) hret (by simp) (z' := (1 : Int32)) (by decide) (hb hy d8_14) (by decide) (by decide) rfl
theorem rm31 (l : Launch) {Z a0} (hw : HW Z a0) (gCS : Int32) (a1 a2 : Addr) (z0 : ClassId) (x1 : Int32) (h0 : Heap) (O0 : Old Z Z.heap.size h0) (z1 : Fld Z h0 a1 s0 "value" "[B" (.ref a2)) (z2 : Arv Z h0 a2 z0 .byte 2 [(.int (bH x1)), (.int (bL x1))] iZ) (z3 : Exa Z h0 a1 s0) (SgCS : Sta Z Z.heap s0 s8 "Z" (.int gCS)) (NgCS : ¬ (gCS = (0 : Int32))) (z4 : Fld Z h0 a1 s0 "coder" "B" (.int 1)) :
    CtrN l Z mn1 jdk_42_method_54_code 1 (some .int) [] (⟨1, 0, 0, 14⟩ : Room) #[(.ref a1)] h0 [] (fun v h => v = some (.int 1)) := by
  refine CtrN.intro (L0 := #[vr a1]) (plainFor_of_name pn1) O0 (own_entry rfl) ?_
  intro p e s m below meth c T0 hy hml hret hlk hnm W0
  refine o_aloadN W0 1 (hb hy d7_0) rfl rfl rfl ?_
  refine o_getF W0 (w25 hw) Via.refl z1 4 (hb hy d7_1) rfl ?_
  intro T1 W1
  refine o_len W1 z2 5 (hb hy d7_4) rfl <| o_aloadN W1 6 (hb hy d7_5) rfl rfl rfl ?_
  refine o_virtualC W1 (w43 hw) (w44 hw) (o_nf W1 rfl (w46 hw)) (w46 hw) (w45 hw) (by decide) z3 (w47 hw) (w8 hw) (rm30 l hw gCS a1 h0 W1.old SgCS NgCS z4) 1 0 0 (by decide) (by rw [hml]; rfl) (lenOf pd8 rfl) [(.int 2)] rfl rfl 9 (hb hy d7_6) rfl rfl rfl all0 tri ?_
  intro v2 T2 h2 lo2 W2 K2 q2
  obtain rfl := q2.2.2
  show Gl _ _ _ _ _ _ _ _ [(.int 1), (.int 2)]
  refine o_ishr W2 (v := 1) 10 (hb hy d7_9) (by decide) rfl ?_
  exact o_retI W2 hlk hret (hb hy d7_10) (by decide) (by decide) rfl
theorem rm32 (l : Launch) {Z a0} (hw : HW Z a0) (gCS : Int32) (a1 : Addr) (h0 : Heap) (O0 : Old Z Z.heap.size h0) (SgCS : Sta Z Z.heap s0 s8 "Z" (.int gCS)) (NgCS : ¬ (gCS = (0 : Int32))) (z0 : Fld Z h0 a1 s0 "coder" "B" (.int 1)) :
    CtrN l Z mn12 jdk_42_method_154_code 1 (some .boolean) [] (⟨0, 0, 0, 0⟩ : Room) #[(.ref a1)] h0 [] (fun v h => v = some iZ) := by
  refine CtrN.intro (L0 := #[vr a1]) (plainFor_of_name pn1) O0 (own_entry rfl) ?_
  intro p e s m below meth c T0 hy hml hret hlk hnm W0
  refine o_getS W0 (w48 hw) Via.refl (SgCS.ext W0.ox) 3 (hb hy d10_0) rfl ?_
  intro T1 W1
  refine o_ifN W1 6 (hb hy d10_3) (XT.i0_eq_f NgCS) rfl <| o_aloadN W1 7 (hb hy d10_6) rfl rfl rfl ?_
  refine o_getF W1 (w26 hw) Via.refl z0 10 (hb hy d10_7) rfl ?_
  intro T2 W2
  refine o_ifY W2 17 (hb hy d10_10) (XT.i0_ne_t (by decide)) (by decide) rfl <| o_iconst W2 (v := 0) 18 (hb hy d10_17) rfl rfl ?_
  exact o_retN W2 hlk (t := .boolean) hret (by simp) (z' := (0 : Int32)) (by decide) (hb hy d10_18) (by decide) (by decide) rfl
theorem rm33 (l : Launch) {Z a0} (hw : HW Z a0) (a1 : Addr) (z0 : ClassId) (x1 : Int32) (h0 : Heap) (O0 : Old Z Z.heap.size h0) (z1 : Arv Z h0 a1 z0 .byte 2 [(.int (bH x1)), (.int (bL x1))] iZ) :
    CtrN l Z mn21 jdk_52_method_6_code 1 (some .int) [] (⟨0, 0, 0, 0⟩ : Room) #[(.ref a1)] h0 [] (fun v h => v = some (.int 1)) := by
  refine CtrN.intro (L0 := #[vr a1]) (plainFor_of_name pn3) O0 (own_entry rfl) ?_
  intro p e s m below meth c T0 hy hml hret hlk hnm W0
  refine o_aloadN W0 1 (hb hy d25_0) rfl rfl rfl <| o_len W0 z1 2 (hb hy d25_1) rfl <| o_iconst W0 (v := 1) 3 (hb hy d25_2) rfl rfl <| o_ishr W0 (v := 1) 4 (hb hy d25_3) (by decide) rfl ?_
  exact o_retI W0 hlk hret (hb hy d25_4) (by decide) (by decide) rfl
theorem rm34 (l : Launch) {Z a0} (hw : HW Z a0) (gF : Value) (a1 : Addr) (z0 : ClassId) (x1 : Int32) (h0 : Heap) (O0 : Old Z Z.heap.size h0) (z1 : Arv Z h0 a1 z0 .byte 2 [(.int (bH x1)), (.int (bL x1))] iZ) (SgF : Sta Z Z.heap s2 s3 s4 gF) (NgF : gF.isRef = true) :
    CtrN l Z mn22 jdk_52_method_91_code 2 none [] (⟨2, 0, 0, 27⟩ : Room) #[iZ, (.ref a1)] h0 [] (fun v h => v = none) := by
  refine CtrN.intro (L0 := #[vi 0, vr a1]) (plainFor_of_name pn3) O0 (own_entry rfl) ?_
  intro p e s m below meth c T0 hy hml hret hlk hnm W0
  refine o_iloadN W0 1 (hb hy d24_0) rfl rfl <| o_aloadN W0 2 (hb hy d24_1) rfl rfl rfl ?_
  refine o_staticC W0 (w109 hw) (w110 hw) (w73 hw) (w111 hw) (by decide) (rm33 l hw a1 z0 x1 h0 W0.old z1) 1 0 0 (by decide) (by rw [hml]; rfl) (lenOf pd15 rfl) [iZ] rfl rfl 5 (hb hy d24_2) rfl rfl rfl all0 tri ?_
  intro v1 T1 h1 lo1 W1 K1 q1
  obtain rfl := q1.2.2
  show Gl _ _ _ _ _ _ _ _ [(.int 1), iZ]
  refine o_staticC W1 (w112 hw) (w64 hw) (w8 hw) (w65 hw) (by decide) (rm17 l hw gF h1 W1.old SgF NgF) 0 0 0 (by decide) (by rw [hml]; rfl) (lenOf pd10 rfl) [] rfl rfl 8 (hb hy d24_5) rfl rfl rfl all0 tri ?_
  intro v2 T2 h2 lo2 W2 K2 q2
  obtain rfl := q2.2.2
  show Gl _ _ _ _ _ _ _ _ []
  exact o_ret0 W2 hlk hret (hb hy d24_8) (by decide) (by decide) rfl
theorem rm35 (l : Launch) {Z a0} (hw : HW Z a0) (gF : Value) (a1 : Addr) (z0 : ClassId) (x1 : Int32) (h0 : Heap) (O0 : Old Z Z.heap.size h0) (z1 : Arv Z h0 a1 z0 .byte 2 [(.int (bH x1)), (.int (bL x1))] iZ) (SgF : Sta Z Z.heap s2 s3 s4 gF) (NgF : gF.isRef = true) (z2 : Sta Z Z.heap s1 s5 "Z" (.int 1)) (z3 : Sta Z Z.heap s1 s6 "I" iZ) (z4 : Sta Z Z.heap s1 s7 "I" (.int 8)) (hu3 : own_c x1) :
    CtrN l Z mn23 jdk_52_method_83_code 2 (some .char) [] (⟨3, 0, 0, 40⟩ : Room) #[(.ref a1), iZ] h0 [] (fun v h => v = some (.int x1)) := by
  refine CtrN.intro (L0 := #[vr a1, vi 0]) (plainFor_of_name pn3) O0 (own_entry rfl) ?_
  intro p e s m below meth c T0 hy hml hret hlk hnm W0
  refine o_iloadN W0 1 (hb hy d23_0) rfl rfl <| o_aloadN W0 2 (hb hy d23_1) rfl rfl rfl ?_
  refine o_staticC W0 (w106 hw) (w107 hw) (w73 hw) (w108 hw) (by decide) (rm34 l hw gF a1 z0 x1 h0 W0.old z1 SgF NgF) 0 0 0 (by decide) (by rw [hml]; rfl) (lenOf pd16 rfl) [] rfl rfl 5 (hb hy d23_2) rfl rfl rfl all0 tri ?_
  intro v1 T1 h1 lo1 W1 K1 q1
  obtain rfl := q1.2.2
  show Gl _ _ _ _ _ _ _ _ []
  refine o_aloadN W1 6 (hb hy d23_5) rfl rfl rfl <| o_iloadN W1 7 (hb hy d23_6) rfl rfl ?_
  have c2 := (z1.keep K1 nin0)
  refine o_staticC W1 (w100 hw) (w101 hw) (w73 hw) (w102 hw) (by decide) (rm25 l hw a1 z0 x1 h1 W1.old z2 c2 z3 z4 hu3) 0 0 0 (by decide) (by rw [hml]; rfl) (lenOf pd11 rfl) [] rfl rfl 10 (hb hy d23_7) rfl rfl rfl all0 tri ?_
  intro v4 T4 h4 lo4 W4 K4 q4
  obtain rfl := q4.2.2
  show Gl _ _ _ _ _ _ _ _ [(.int x1)]
  exact o_retN W4 hlk (t := .char) hret (by simp) (z' := x1) (own_i2cc hu3) (hb hy d23_10) (by decide) (by decide) rfl
theorem rm36 (l : Launch) {Z a0} (hw : HW Z a0) (gCS : Int32) (gF : Value) (a1 a2 : Addr) (z0 : ClassId) (x1 : Int32) (h0 : Heap) (O0 : Old Z Z.heap.size h0) (z1 : Exa Z h0 a1 s0) (SgCS : Sta Z Z.heap s0 s8 "Z" (.int gCS)) (NgCS : ¬ (gCS = (0 : Int32))) (z2 : Fld Z h0 a1 s0 "coder" "B" (.int 1)) (z3 : Fld Z h0 a1 s0 "value" "[B" (.ref a2)) (z4 : Arv Z h0 a2 z0 .byte 2 [(.int (bH x1)), (.int (bL x1))] iZ) (SgF : Sta Z Z.heap s2 s3 s4 gF) (NgF : gF.isRef = true) (z5 : Sta Z Z.heap s1 s5 "Z" (.int 1)) (z6 : Sta Z Z.heap s1 s6 "I" iZ) (z7 : Sta Z Z.heap s1 s7 "I" (.int 8)) (hu5 : own_c x1) :
    CtrN l Z mn2 jdk_42_method_56_code 2 (some .char) [] (⟨5, 0, 0, 70⟩ : Room) #[(.ref a1), iZ] h0 [] (fun v h => v = some (.int x1)) := by
  refine CtrN.intro (L0 := #[vr a1, vi 0]) (plainFor_of_name pn1) O0 (own_entry rfl) ?_
  intro p e s m below meth c T0 hy hml hret hlk hnm W0
  refine o_aloadN W0 1 (hb hy d9_0) rfl rfl rfl ?_
  refine o_virtualC W0 (w54 hw) (w55 hw) (o_nf W0 rfl (w57 hw)) (w57 hw) (w56 hw) (by decide) z1 (w58 hw) (w8 hw) (rm32 l hw gCS a1 h0 W0.old SgCS NgCS z2) 0 0 0 (by decide) (by rw [hml]; rfl) (lenOf pd3 rfl) [] rfl rfl 4 (hb hy d9_1) rfl rfl rfl all0 tri ?_
  intro v1 T1 h1 lo1 W1 K1 q1
  obtain rfl := q1.2.2
  show Gl _ _ _ _ _ _ _ _ [iZ]
  refine o_ifY W1 16 (hb hy d9_4) (XT.i0_eq_t (by decide)) (by decide) rfl <| o_aloadN W1 17 (hb hy d9_16) rfl rfl rfl ?_
  have c2 := (z3.keep K1 nin0)
  refine o_getF W1 (w25 hw) Via.refl c2 20 (hb hy d9_17) rfl ?_
  intro T3 W3
  refine o_iloadN W3 21 (hb hy d9_20) rfl rfl ?_
  have c4 := (z4.keep K1 nin0)
  refine o_staticC W3 (w103 hw) (w104 hw) (w73 hw) (w105 hw) (by decide) (rm35 l hw gF a2 z0 x1 h1 W3.old c4 SgF NgF z5 z6 z7 hu5) 0 0 0 (by decide) (by rw [hml]; rfl) (lenOf pd11 rfl) [] rfl rfl 24 (hb hy d9_21) rfl rfl rfl all0 tri ?_
  intro v6 T6 h6 lo6 W6 K6 q6
  obtain rfl := q6.2.2
  show Gl _ _ _ _ _ _ _ _ [(.int x1)]
  exact o_retN W6 hlk (t := .char) hret (by simp) (z' := x1) (own_i2cc hu5) (hb hy d9_24) (by decide) (by decide) rfl
theorem rm37 (l : Launch) {Z a0} (hw : HW Z a0) (gCS : Int32) (gF : Value) (a1 a2 : Addr) (z0 : ClassId) (x1 : Int32) (h0 : Heap) (O0 : Old Z Z.heap.size h0) (z1 : Arv Z h0 a2 z0 .char 1 [(.int x1)] iZ) (SgCS : Sta Z Z.heap s0 s8 "Z" (.int gCS)) (NgCS : ¬ (gCS = (0 : Int32))) (hu1 : own_c x1) (z2 : Exa Z h0 a1 s0) (z3 : Fld Z h0 a1 s0 "coder" "B" iZ) (z4 : Fld Z h0 a1 s0 "value" "[B" .null) (z5 : Z.heap.size ≤ a1) (SgF : Sta Z Z.heap s2 s3 s4 gF) (NgF : gF.isRef = true) (z6 : Sta Z Z.heap s1 s5 "Z" (.int 1)) (z7 : Sta Z Z.heap s1 s6 "I" iZ) (z8 : Sta Z Z.heap s1 s7 "I" (.int 8)) :
    CtrN l Z mn6 jdk_42_method_3_code 2 none [] (⟨5, 2, 3, 74⟩ : Room) #[(.ref a1), (.ref a2)] h0 [a1] (fun v h => Sv l Z h a1 (1 : Int32) [((0 : Int32), x1)] ∧ v = none) := by
  refine CtrN.intro (L0 := #[vr a1, vr a2]) (plainFor_of_name pn1) O0 (own_entry rfl) ?_
  intro p e s m below meth c T0 hy hml hret hlk hnm W0
  refine o_aloadN W0 1 (hb hy d2_0) rfl rfl rfl <| o_aloadN W0 2 (hb hy d2_1) rfl rfl rfl <| o_iconst W0 (v := 0) 3 (hb hy d2_2) rfl rfl <| o_aloadN W0 4 (hb hy d2_3) rfl rfl rfl <| o_len W0 z1 5 (hb hy d2_4) rfl ?_
  refine o_aconstNull W0 6 (hb hy d2_5) rfl ?_
  rcases (Classical.em ((255 : Int32) < x1)).symm with hq2 | hq2
  · refine o_specialC W0 rfl (w12 hw) (w13 hw) (w15 hw) (by decide) (w8 hw) (rm10 l hw gCS a1 a2 z0 x1 h0 W0.old SgCS NgCS z1 hu1 hq2 z2 z3 z5 z4) 0 1 1 (by decide) (by rw [hml]; rfl) (lenOf pd1 rfl) [] rfl rfl 9 (hb hy d2_6) rfl rfl rfl (allS ⟨z5, m0⟩ all0) tri ?_
    intro v3 T3 h3 lo3 W3 K3 q3
    obtain ⟨r1_3, r2_3, P3_0, P3_1, P3_2, P3_3, rfl⟩ := q3.2.2
    show Gl _ _ _ _ _ _ _ _ []
    have sv4 : Sv l Z h3 a1 (1 : Int32) [((0 : Int32), x1)] := by
      intro h' O' K'
      have c5 := (P3_2.keep K' nin0)
      have c6 := (P3_3.keep K' nin0)
      have c7 := (P3_1.keep K' nin0)
      have c8 := ((z2.keep K3).keep K')
      exact ⟨(rm11 l hw a1 r1_3 r2_3 x1 h' O' c5 c6), (rm13 l hw gCS a1 r1_3 r2_3 x1 h' O' c5 c6 c8 SgCS NgCS c7), (al1 (rm19 l hw gCS gF a1 r1_3 r2_3 x1 h' O' c8 SgCS NgCS c7 c5 c6 SgF NgF hu1 hq2) al0)⟩
    exact o_ret0 W3 hlk hret (hb hy d2_9) (by decide) (by decide) ⟨sv4, rfl⟩
  · refine o_specialC W0 rfl (w12 hw) (w13 hw) (w15 hw) (by decide) (w8 hw) (rm28 l hw gCS a1 a2 z0 x1 h0 W0.old SgCS NgCS z1 hu1 hq2 z6 z7 z8 z2 z3 z5 z4) 0 2 3 (by decide) (by rw [hml]; rfl) (lenOf pd1 rfl) [] rfl rfl 9 (hb hy d2_6) rfl rfl rfl (allS ⟨z5, m0⟩ all0) tri ?_
    intro v9 T9 h9 lo9 W9 K9 q9
    obtain ⟨r1_9, r2_9, P9_0, P9_1, P9_2, P9_3, rfl⟩ := q9.2.2
    show Gl _ _ _ _ _ _ _ _ []
    have sv10 : Sv l Z h9 a1 (1 : Int32) [((0 : Int32), x1)] := by
      intro h' O' K'
      have c11 := (P9_2.keep K' nin0)
      have c12 := (P9_3.keep K' nin0)
      have c13 := (P9_1.keep K' nin0)
      have c14 := ((z2.keep K9).keep K')
      exact ⟨(rm29 l hw a1 r1_9 r2_9 x1 h' O' c11 c12), (rm31 l hw gCS a1 r1_9 r2_9 x1 h' O' c11 c12 c14 SgCS NgCS c13), (al1 (rm36 l hw gCS gF a1 r1_9 r2_9 x1 h' O' c14 SgCS NgCS c13 c11 c12 SgF NgF z6 z7 z8 hu1) al0)⟩
    exact o_ret0 W9 hlk hret (hb hy d2_9) (by decide) (by decide) ⟨sv10, rfl⟩
theorem rm38 (l : Launch) {Z a0} (hw : HW Z a0) (a1 : Addr) (x1 : Int32) (h0 : Heap) (O0 : Old Z Z.heap.size h0) (z0 : Exa Z h0 a1 s0) (z1 : Sv l Z h0 a1 (1 : Int32) [((0 : Int32), x1)]) (hc11 : (own_okc x1) = (0 : Int32)) :
    CtrN l Z mn7 prog_6_method_2_code 4 (some .boolean) [] (⟨6, 0, 0, 83⟩ : Room) #[(.ref a1)] h0 [] (fun v h => v = some iZ) := by
  refine CtrN.intro (L0 := #[vr a1, un, un, un]) (plainFor_of_name pn2) O0 (own_entry rfl) ?_
  intro p e s m below meth c T0 hy hml hret hlk hnm W0
  refine o_aloadN W0 1 (hb hy d5_0) rfl rfl rfl ?_
  refine o_ifnullN W0 4 (hb hy d5_1) rfl ?_
  refine o_aloadN W0 5 (hb hy d5_4) rfl rfl rfl ?_
  refine o_virtualC W0 (w31 hw) (w32 hw) (o_nf W0 rfl (w34 hw)) (w34 hw) (w33 hw) (by decide) z0 (w35 hw) (w8 hw) (z1 _ W0.old (Keep.refl _ _)).1 0 0 0 (by decide) (by rw [hml]; rfl) (lenOf pd3 rfl) [] rfl rfl 8 (hb hy d5_5) rfl rfl rfl all0 tri ?_
  intro v1 T1 h1 lo1 W1 K1 q1
  obtain rfl := q1.2.2
  show Gl _ _ _ _ _ _ _ _ [iZ]
  refine o_ifN W1 11 (hb hy d5_8) (XT.i0_ne_f (by decide)) rfl <| o_aloadN W1 12 (hb hy d5_11) rfl rfl rfl ?_
  have c2 := (z1.keep K1)
  have c3 := (z0.keep K1)
  refine o_virtualC W1 (w38 hw) (w39 hw) (o_nf W1 rfl (w41 hw)) (w41 hw) (w40 hw) (by decide) c3 (w42 hw) (w8 hw) (c2 _ W1.old (Keep.refl _ _)).2.1 0 0 0 (by decide) (by rw [hml]; rfl) (lenOf pd17 rfl) [] rfl rfl 15 (hb hy d5_12) rfl rfl rfl all0 tri ?_
  intro v4 T4 h4 lo4 W4 K4 q4
  obtain rfl := q4.2.2
  show Gl _ _ _ _ _ _ _ _ [(.int 1)]
  refine o_sipush W4 (v := 128) 18 (hb hy d5_15) (by decide) rfl <| o_icmpY W4 23 (hb hy d5_18) (XT.ii_le_t (by decide)) (by decide) rfl <| o_iconst W4 (v := 1) 24 (hb hy d5_23) rfl rfl <| o_istoreN W4 (L' := #[vr a1, vi 1, un, un]) 25 (hb hy d5_24) rfl rfl <| o_iconst W4 (v := 0) 26 (hb hy d5_25) rfl rfl <| o_istoreN W4 (L' := #[vr a1, vi 1, vi 0, un]) 27 (hb hy d5_26) rfl rfl ?_
  refine o_iloadN W4 28 (hb hy d5_27) rfl rfl <| o_aloadN W4 29 (hb hy d5_28) rfl rfl rfl ?_
  have c5 := (c2.keep K4)
  have c6 := (c3.keep K4)
  refine o_virtualC W4 (w38 hw) (w39 hw) (o_nf W4 rfl (w41 hw)) (w41 hw) (w40 hw) (by decide) c6 (w42 hw) (w8 hw) (c5 _ W4.old (Keep.refl _ _)).2.1 1 0 0 (by decide) (by rw [hml]; rfl) (lenOf pd17 rfl) [iZ] rfl rfl 32 (hb hy d5_29) rfl rfl rfl all0 tri ?_
  intro v7 T7 h7 lo7 W7 K7 q7
  obtain rfl := q7.2.2
  show Gl _ _ _ _ _ _ _ _ [(.int 1), iZ]
  refine o_icmpN W7 35 (hb hy d5_32) (XT.ii_ge_f (by decide)) rfl <| o_iloadN W7 36 (hb hy d5_35) rfl rfl <| o_ifN W7 39 (hb hy d5_36) (XT.i0_eq_f (by decide)) rfl <| o_aloadN W7 40 (hb hy d5_39) rfl rfl rfl <| o_iloadN W7 41 (hb hy d5_40) rfl rfl ?_
  have c8 := (c5.keep K7)
  have c9 := (c6.keep K7)
  refine o_virtualC W7 (w49 hw) (w50 hw) (o_nf W7 rfl (w52 hw)) (w52 hw) (w51 hw) (by decide) c9 (w53 hw) (w8 hw) (al_h (c8 _ W7.old (Keep.refl _ _)).2.2) 0 0 0 (by decide) (by rw [hml]; rfl) (lenOf pd18 rfl) [] rfl rfl 44 (hb hy d5_41) rfl rfl rfl all0 tri ?_
  intro v10 T10 h10 lo10 W10 K10 q10
  obtain rfl := q10.2.2
  show Gl _ _ _ _ _ _ _ _ [(.int x1)]
  refine o_istoreN W10 (L' := #[vr a1, vi 1, vi 0, vi x1]) 45 (hb hy d5_44) rfl rfl ?_
  refine own_tst W10 hy ?_
  rw [hc11]
  refine o_istoreN W10 (L' := #[vr a1, vi 0, vi 0, vi x1]) 105 (hb hy d5_104) rfl rfl <| o_iinc W10 (v := 1) (L' := #[vr a1, vi 0, vi 1, vi x1]) 108 (hb hy d5_105) rfl (by decide) rfl rfl <| o_goto W10 27 (hb hy d5_108) (by decide) rfl <| o_iloadN W10 28 (hb hy d5_27) rfl rfl <| o_aloadN W10 29 (hb hy d5_28) rfl rfl rfl ?_
  have c12 := (c8.keep K10)
  have c13 := (c9.keep K10)
  refine o_virtualC W10 (w38 hw) (w39 hw) (o_nf W10 rfl (w41 hw)) (w41 hw) (w40 hw) (by decide) c13 (w42 hw) (w8 hw) (c12 _ W10.old (Keep.refl _ _)).2.1 1 0 0 (by decide) (by rw [hml]; rfl) (lenOf pd17 rfl) [(.int 1)] rfl rfl 32 (hb hy d5_29) rfl rfl rfl all0 tri ?_
  intro v14 T14 h14 lo14 W14 K14 q14
  obtain rfl := q14.2.2
  show Gl _ _ _ _ _ _ _ _ [(.int 1), (.int 1)]
  refine o_icmpY W14 111 (hb hy d5_32) (XT.ii_ge_t (by decide)) (by decide) rfl <| o_iloadN W14 112 (hb hy d5_111) rfl rfl ?_
  exact o_retN W14 hlk (t := .boolean) hret (by simp) (z' := (0 : Int32)) (by decide) (hb hy d5_112) (by decide) (by decide) rfl
theorem rm39 (l : Launch) {Z a0} (hw : HW Z a0) (a1 : Addr) (x1 : Int32) (h0 : Heap) (O0 : Old Z Z.heap.size h0) (z0 : Exa Z h0 a1 s0) (z1 : Sv l Z h0 a1 (1 : Int32) [((0 : Int32), x1)]) (hc11 : ¬ ((own_okc x1) = (0 : Int32))) :
    CtrN l Z mn7 prog_6_method_2_code 4 (some .boolean) [] (⟨6, 0, 0, 83⟩ : Room) #[(.ref a1)] h0 [] (fun v h => v = some (.int 1)) := by
  refine CtrN.intro (L0 := #[vr a1, un, un, un]) (plainFor_of_name pn2) O0 (own_entry rfl) ?_
  intro p e s m below meth c T0 hy hml hret hlk hnm W0
  refine o_aloadN W0 1 (hb hy d5_0) rfl rfl rfl ?_
  refine o_ifnullN W0 4 (hb hy d5_1) rfl ?_
  refine o_aloadN W0 5 (hb hy d5_4) rfl rfl rfl ?_
  refine o_virtualC W0 (w31 hw) (w32 hw) (o_nf W0 rfl (w34 hw)) (w34 hw) (w33 hw) (by decide) z0 (w35 hw) (w8 hw) (z1 _ W0.old (Keep.refl _ _)).1 0 0 0 (by decide) (by rw [hml]; rfl) (lenOf pd3 rfl) [] rfl rfl 8 (hb hy d5_5) rfl rfl rfl all0 tri ?_
  intro v1 T1 h1 lo1 W1 K1 q1
  obtain rfl := q1.2.2
  show Gl _ _ _ _ _ _ _ _ [iZ]
  refine o_ifN W1 11 (hb hy d5_8) (XT.i0_ne_f (by decide)) rfl <| o_aloadN W1 12 (hb hy d5_11) rfl rfl rfl ?_
  have c2 := (z1.keep K1)
  have c3 := (z0.keep K1)
  refine o_virtualC W1 (w38 hw) (w39 hw) (o_nf W1 rfl (w41 hw)) (w41 hw) (w40 hw) (by decide) c3 (w42 hw) (w8 hw) (c2 _ W1.old (Keep.refl _ _)).2.1 0 0 0 (by decide) (by rw [hml]; rfl) (lenOf pd17 rfl) [] rfl rfl 15 (hb hy d5_12) rfl rfl rfl all0 tri ?_
  intro v4 T4 h4 lo4 W4 K4 q4
  obtain rfl := q4.2.2
  show Gl _ _ _ _ _ _ _ _ [(.int 1)]
  refine o_sipush W4 (v := 128) 18 (hb hy d5_15) (by decide) rfl <| o_icmpY W4 23 (hb hy d5_18) (XT.ii_le_t (by decide)) (by decide) rfl <| o_iconst W4 (v := 1) 24 (hb hy d5_23) rfl rfl <| o_istoreN W4 (L' := #[vr a1, vi 1, un, un]) 25 (hb hy d5_24) rfl rfl <| o_iconst W4 (v := 0) 26 (hb hy d5_25) rfl rfl <| o_istoreN W4 (L' := #[vr a1, vi 1, vi 0, un]) 27 (hb hy d5_26) rfl rfl ?_
  refine o_iloadN W4 28 (hb hy d5_27) rfl rfl <| o_aloadN W4 29 (hb hy d5_28) rfl rfl rfl ?_
  have c5 := (c2.keep K4)
  have c6 := (c3.keep K4)
  refine o_virtualC W4 (w38 hw) (w39 hw) (o_nf W4 rfl (w41 hw)) (w41 hw) (w40 hw) (by decide) c6 (w42 hw) (w8 hw) (c5 _ W4.old (Keep.refl _ _)).2.1 1 0 0 (by decide) (by rw [hml]; rfl) (lenOf pd17 rfl) [iZ] rfl rfl 32 (hb hy d5_29) rfl rfl rfl all0 tri ?_
  intro v7 T7 h7 lo7 W7 K7 q7
  obtain rfl := q7.2.2
  show Gl _ _ _ _ _ _ _ _ [(.int 1), iZ]
  refine o_icmpN W7 35 (hb hy d5_32) (XT.ii_ge_f (by decide)) rfl <| o_iloadN W7 36 (hb hy d5_35) rfl rfl <| o_ifN W7 39 (hb hy d5_36) (XT.i0_eq_f (by decide)) rfl <| o_aloadN W7 40 (hb hy d5_39) rfl rfl rfl <| o_iloadN W7 41 (hb hy d5_40) rfl rfl ?_
  have c8 := (c5.keep K7)
  have c9 := (c6.keep K7)
  refine o_virtualC W7 (w49 hw) (w50 hw) (o_nf W7 rfl (w52 hw)) (w52 hw) (w51 hw) (by decide) c9 (w53 hw) (w8 hw) (al_h (c8 _ W7.old (Keep.refl _ _)).2.2) 0 0 0 (by decide) (by rw [hml]; rfl) (lenOf pd18 rfl) [] rfl rfl 44 (hb hy d5_41) rfl rfl rfl all0 tri ?_
  intro v10 T10 h10 lo10 W10 K10 q10
  obtain rfl := q10.2.2
  show Gl _ _ _ _ _ _ _ _ [(.int x1)]
  refine o_istoreN W10 (L' := #[vr a1, vi 1, vi 0, vi x1]) 45 (hb hy d5_44) rfl rfl ?_
  refine own_tst W10 hy ?_
  rw [own_ok1 hc11]
  refine o_istoreN W10 (L' := #[vr a1, vi 1, vi 0, vi x1]) 105 (hb hy d5_104) rfl rfl <| o_iinc W10 (v := 1) (L' := #[vr a1, vi 1, vi 1, vi x1]) 108 (hb hy d5_105) rfl (by decide) rfl rfl <| o_goto W10 27 (hb hy d5_108) (by decide) rfl <| o_iloadN W10 28 (hb hy d5_27) rfl rfl <| o_aloadN W10 29 (hb hy d5_28) rfl rfl rfl ?_
  have c12 := (c8.keep K10)
  have c13 := (c9.keep K10)
  refine o_virtualC W10 (w38 hw) (w39 hw) (o_nf W10 rfl (w41 hw)) (w41 hw) (w40 hw) (by decide) c13 (w42 hw) (w8 hw) (c12 _ W10.old (Keep.refl _ _)).2.1 1 0 0 (by decide) (by rw [hml]; rfl) (lenOf pd17 rfl) [(.int 1)] rfl rfl 32 (hb hy d5_29) rfl rfl rfl all0 tri ?_
  intro v14 T14 h14 lo14 W14 K14 q14
  obtain rfl := q14.2.2
  show Gl _ _ _ _ _ _ _ _ [(.int 1), (.int 1)]
  refine o_icmpY W14 111 (hb hy d5_32) (XT.ii_ge_t (by decide)) (by decide) rfl <| o_iloadN W14 112 (hb hy d5_111) rfl rfl ?_
  exact o_retN W14 hlk (t := .boolean) hret (by simp) (z' := (1 : Int32)) (by decide) (hb hy d5_112) (by decide) (by decide) rfl
theorem rm40 (l : Launch) {Z a0} (hw : HW Z a0) (a1 a2 : Addr) (z0 : ClassId) (x1 x2 : Int32) (z1 : ClassId) (h0 : Heap) (O0 : Old Z Z.heap.size h0) (z2 : Arv Z h0 a1 z0 .char 2 [(.int x1), (.int x2)] iZ) (hu1 : own_c x1) (hc2 : ¬ ((255 : Int32) < x1)) (z3 : Arv Z h0 a2 z1 .byte 2 [iZ, iZ] iZ) (z4 : Z.heap.size ≤ a2) (z5 : a1 ≠ a2) (hu5 : own_c x2) (hc6 : ¬ ((255 : Int32) < x2)) :
    CtrN l Z mn8 jdk_52_method_21_code 7 (some .int) [] (⟨0, 0, 0, 0⟩ : Room) #[(.ref a1), iZ, (.ref a2), iZ, (.int 2)] h0 [a2] (fun v h => Arv Z h a2 z1 .byte 2 [(.int (bB x1)), (.int (bB x2))] iZ ∧ v = some (.int 2)) := by
  refine CtrN.intro (L0 := #[vr a1, vi 0, vr a2, vi 0, vi 2, un, un]) (plainFor_of_name pn3) O0 (own_entry rfl) ?_
  intro p e s m below meth c T0 hy hml hret hlk hnm W0
  refine o_iconst W0 (v := 0) 1 (hb hy d15_0) rfl rfl <| o_istore W0 (L' := #[vr a1, vi 0, vr a2, vi 0, vi 2, vi 0, un]) 3 (hb hy d15_1) rfl rfl <| o_iload W0 5 (hb hy d15_3) rfl rfl <| o_iload W0 7 (hb hy d15_5) rfl rfl <| o_icmpN W0 10 (hb hy d15_7) (XT.ii_ge_f (by decide)) rfl <| o_aloadN W0 11 (hb hy d15_10) rfl rfl rfl ?_
  refine o_iloadN W0 12 (hb hy d15_11) rfl rfl <| o_caload W0 z2 (x := x1) (i := 0) (by decide) (by decide) (by decide) rfl 13 (hb hy d15_12) rfl <| o_istore W0 (L' := #[vr a1, vi 0, vr a2, vi 0, vi 2, vi 0, vi x1]) 15 (hb hy d15_13) rfl rfl <| o_iload W0 17 (hb hy d15_15) rfl rfl <| o_sipush W0 (v := 255) 20 (hb hy d15_17) (by decide) rfl <| o_icmpY W0 26 (hb hy d15_20) (XT.ii_le_t (own_cb hu1 hc2).2) (by decide) rfl ?_
  refine o_aloadN W0 27 (hb hy d15_26) rfl rfl rfl <| o_iloadN W0 28 (hb hy d15_27) rfl rfl <| o_iload W0 30 (hb hy d15_28) rfl rfl <| o_i2b W0 (v := (bB x1)) 31 (hb hy d15_30) rfl rfl ?_
  refine o_stB W0 z3 (i := 0) (x' := (bB x1)) (by decide) (by decide) (by decide) (Nat.lt_of_sub_eq_succ rfl) (own_b8 _) (vs' := [(.int (bB x1)), iZ]) rfl z4 m0 tri 32 (hb hy d15_31) rfl ?_
  intro T3 h3 lo3 W3 R3 V3
  refine o_iinc W3 (v := 1) (L' := #[vr a1, vi 1, vr a2, vi 0, vi 2, vi 0, vi x1]) 35 (hb hy d15_32) rfl (by decide) rfl rfl <| o_iinc W3 (v := 1) (L' := #[vr a1, vi 1, vr a2, vi 1, vi 2, vi 0, vi x1]) 38 (hb hy d15_35) rfl (by decide) rfl rfl <| o_iinc W3 (v := 1) (L' := #[vr a1, vi 1, vr a2, vi 1, vi 2, vi 1, vi x1]) 41 (hb hy d15_38) rfl (by decide) rfl rfl <| o_goto W3 3 (hb hy d15_41) (by decide) rfl <| o_iload W3 5 (hb hy d15_3) rfl rfl <| o_iload W3 7 (hb hy d15_5) rfl rfl ?_
  refine o_icmpN W3 10 (hb hy d15_7) (XT.ii_ge_f (by decide)) rfl <| o_aloadN W3 11 (hb hy d15_10) rfl rfl rfl <| o_iloadN W3 12 (hb hy d15_11) rfl rfl ?_
  have c4 := (z2.other R3 z5)
  refine o_caload W3 c4 (x := x2) (i := 1) (by decide) (by decide) (by decide) rfl 13 (hb hy d15_12) rfl <| o_istore W3 (L' := #[vr a1, vi 1, vr a2, vi 1, vi 2, vi 1, vi x2]) 15 (hb hy d15_13) rfl rfl <| o_iload W3 17 (hb hy d15_15) rfl rfl <| o_sipush W3 (v := 255) 20 (hb hy d15_17) (by decide) rfl <| o_icmpY W3 26 (hb hy d15_20) (XT.ii_le_t (own_cb hu5 hc6).2) (by decide) rfl <| o_aloadN W3 27 (hb hy d15_26) rfl rfl rfl ?_
  refine o_iloadN W3 28 (hb hy d15_27) rfl rfl <| o_iload W3 30 (hb hy d15_28) rfl rfl <| o_i2b W3 (v := (bB x2)) 31 (hb hy d15_30) rfl rfl ?_
  refine o_stB W3 V3 (i := 1) (x' := (bB x2)) (by decide) (by decide) (by decide) (Nat.lt_of_sub_eq_succ rfl) (own_b8 _) (vs' := [(.int (bB x1)), (.int (bB x2))]) rfl z4 m0 tri 32 (hb hy d15_31) rfl ?_
  intro T7 h7 lo7 W7 R7 V7
  refine o_iinc W7 (v := 2) (L' := #[vr a1, vi 2, vr a2, vi 1, vi 2, vi 1, vi x2]) 35 (hb hy d15_32) rfl (by decide) rfl rfl <| o_iinc W7 (v := 2) (L' := #[vr a1, vi 2, vr a2, vi 2, vi 2, vi 1, vi x2]) 38 (hb hy d15_35) rfl (by decide) rfl rfl <| o_iinc W7 (v := 2) (L' := #[vr a1, vi 2, vr a2, vi 2, vi 2, vi 2, vi x2]) 41 (hb hy d15_38) rfl (by decide) rfl rfl <| o_goto W7 3 (hb hy d15_41) (by decide) rfl <| o_iload W7 5 (hb hy d15_3) rfl rfl <| o_iload W7 7 (hb hy d15_5) rfl rfl ?_
  refine o_icmpY W7 44 (hb hy d15_7) (XT.ii_ge_t (by decide)) (by decide) rfl <| o_iload W7 46 (hb hy d15_44) rfl rfl ?_
  exact o_retI W7 hlk hret (hb hy d15_46) (by decide) (by decide) ⟨V7, rfl⟩
theorem rm41 (l : Launch) {Z a0} (hw : HW Z a0) (a1 : Addr) (z0 : ClassId) (x1 x2 : Int32) (h0 : Heap) (O0 : Old Z Z.heap.size h0) (z1 : Arv Z h0 a1 z0 .char 2 [(.int x1), (.int x2)] iZ) (hu3 : own_c x1) (hc4 : ¬ ((255 : Int32) < x1)) (hu5 : own_c x2) (hc6 : ¬ ((255 : Int32) < x2)) :
    CtrN l Z mn9 jdk_52_method_16_code 6 (some (.array .byte)) [] (⟨1, 1, 2, 18⟩ : Room) #[(.ref a1), iZ, (.int 2)] h0 [] (fun v h => ∃ r1 : Addr, ∃ r2 : ClassId, h0.size ≤ r1 ∧ Arv Z h r1 r2 .byte 2 [(.int (bB x1)), (.int (bB x2))] iZ ∧ v = some (.ref r1)) := by
  refine CtrN.intro (L0 := #[vr a1, vi 0, vi 2, un, un, un]) (plainFor_of_name pn3) O0 (own_entry rfl) ?_
  intro p e s m below meth c T0 hy hml hret hlk hnm W0
  refine o_iloadN W0 1 (hb hy d14_0) rfl rfl ?_
  refine o_newP W0 (aty := .byte) (w20 hw) tri (by decide) (cap := 2) (by decide) (by decide) 3 (hb hy d14_1) rfl (cells' := 1) (slots' := 2) rfl rfl (by decide) (by decide) (vs := [iZ, iZ]) (dv := iZ) rfl rfl ?_
  intro b1 T1 h1 k1 W1 E1 ge1 gz1 gb1 V1
  refine o_astoreN W1 (L' := #[vr a1, vi 0, vi 2, vr b1, un, un]) 4 (hb hy d14_3) rfl rfl rfl <| o_aloadN W1 5 (hb hy d14_4) rfl rfl rfl <| o_iloadN W1 6 (hb hy d14_5) rfl rfl <| o_aloadN W1 7 (hb hy d14_6) rfl rfl rfl <| o_iconst W1 (v := 0) 8 (hb hy d14_7) rfl rfl <| o_iloadN W1 9 (hb hy d14_8) rfl rfl ?_
  have c2 := (z1.ext E1)
  refine o_staticC W1 (w75 hw) (w76 hw) (w73 hw) (w77 hw) (by decide) (rm40 l hw a1 b1 z0 x1 x2 k1 h1 W1.old c2 hu3 hc4 V1 gz1 (own_ne z1.lt ge1) hu5 hc6) 0 1 2 (by decide) (by rw [hml]; rfl) (lenOf pd5 rfl) [] rfl rfl 12 (hb hy d14_9) rfl rfl rfl (allS ⟨gz1, (Or.inr gb1)⟩ all0) tri ?_
  intro v7 T7 h7 lo7 W7 K7 q7
  obtain ⟨P7_0, rfl⟩ := q7.2.2
  show Gl _ _ _ _ _ _ _ _ [(.int 2)]
  refine o_istore W7 (L' := #[vr a1, vi 0, vi 2, vr b1, vi 2, un]) 14 (hb hy d14_12) rfl rfl <| o_iload W7 16 (hb hy d14_14) rfl rfl <| o_iloadN W7 17 (hb hy d14_16) rfl rfl <| o_icmpY W7 57 (hb hy d14_17) (XT.ii_eq_t (by decide)) (by decide) rfl <| o_aloadN W7 58 (hb hy d14_57) rfl rfl rfl ?_
  exact o_retA W7 hlk (v := (.ref b1)) hret rfl rfl (hb hy d14_58) (by decide) (by decide) ⟨b1, k1, gb1, P7_0, rfl⟩
theorem rm42 (l : Launch) {Z a0} (hw : HW Z a0) (a1 : Addr) (z0 : ClassId) (x1 x2 : Int32) (h0 : Heap) (O0 : Old Z Z.heap.size h0) (z1 : Arv Z h0 a1 z0 .byte 2 [(.int (bB x1)), (.int (bB x2))] iZ) :
    CtrN l Z mn10 jdk_52_method_15_code 2 (some .byte) [] (⟨0, 0, 0, 0⟩ : Room) #[(.ref a1), (.int 2)] h0 [] (fun v h => v = some iZ) := by
  refine CtrN.intro (L0 := #[vr a1, vi 2]) (plainFor_of_name pn3) O0 (own_entry rfl) ?_
  intro p e s m below meth c T0 hy hml hret hlk hnm W0
  refine o_iloadN W0 1 (hb hy d16_0) rfl rfl <| o_aloadN W0 2 (hb hy d16_1) rfl rfl rfl <| o_len W0 z1 3 (hb hy d16_2) rfl <| o_isub W0 (v := 0) 4 (hb hy d16_3) (by decide) rfl <| o_bipush W0 (v := 31) 6 (hb hy d16_4) (by decide) rfl <| o_iushr W0 (v := 0) 7 (hb hy d16_6) (by decide) rfl ?_
  refine o_i2b W0 (v := 0) 8 (hb hy d16_7) (by decide) rfl ?_
  exact o_retN W0 hlk (t := .byte) hret (by simp) (z' := (0 : Int32)) (by decide) (hb hy d16_8) (by decide) (by decide) rfl
theorem rm43 (l : Launch) {Z a0} (hw : HW Z a0) (gCS : Int32) (a1 a2 : Addr) (z0 : ClassId) (x1 x2 : Int32) (h0 : Heap) (O0 : Old Z Z.heap.size h0) (SgCS : Sta Z Z.heap s0 s8 "Z" (.int gCS)) (NgCS : ¬ (gCS = (0 : Int32))) (z1 : Arv Z h0 a2 z0 .char 2 [(.int x1), (.int x2)] iZ) (hu3 : own_c x1) (hc4 : ¬ ((255 : Int32) < x1)) (hu5 : own_c x2) (hc6 : ¬ ((255 : Int32) < x2)) (z2 : Exa Z h0 a1 s0) (z3 : Fld Z h0 a1 s0 "coder" "B" iZ) (z4 : Z.heap.size ≤ a1) (z5 : Fld Z h0 a1 s0 "value" "[B" .null) :
    CtrN l Z mn5 jdk_42_method_149_code 6 none [] (⟨2, 1, 2, 35⟩ : Room) #[(.ref a1), (.ref a2), iZ, (.int 2), .null] h0 [a1] (fun v h => ∃ r1 : Addr, ∃ r2 : ClassId, h0.size ≤ r1 ∧ Fld Z h a1 s0 "coder" "B" iZ ∧ Fld Z h a1 s0 "value" "[B" (.ref r1) ∧ Arv Z h r1 r2 .byte 2 [(.int (bB x1)), (.int (bB x2))] iZ ∧ v = none) := by
  refine CtrN.intro (L0 := #[vr a1, vr a2, vi 0, vi 2, .val .null, un]) (plainFor_of_name pn1) O0 (own_entry rfl) ?_
  intro p e s m below meth c T0 hy hml hret hlk hnm W0
  refine o_aloadN W0 1 (hb hy d3_0) rfl rfl rfl ?_
  refine o_initO W0 (w16 hw) (w17 hw) (w18 hw) (by rw [hml]; rfl) 4 (hb hy d3_1) rfl (by decide) 0 (by exact Nat.le_of_eq rfl) (by decide) ?_
  intro T1 W1
  refine o_iloadN W1 5 (hb hy d3_4) rfl rfl <| o_ifY W1 27 (hb hy d3_5) (XT.i0_ne_t (by decide)) (by decide) rfl ?_
  refine o_getS W1 (w48 hw) Via.refl (SgCS.ext W1.ox) 30 (hb hy d3_27) rfl ?_
  intro T2 W2
  refine o_ifN W2 33 (hb hy d3_30) (XT.i0_eq_f NgCS) rfl <| o_aloadN W2 34 (hb hy d3_33) rfl rfl rfl <| o_iloadN W2 35 (hb hy d3_34) rfl rfl <| o_iloadN W2 36 (hb hy d3_35) rfl rfl ?_
  refine o_staticC W2 (w71 hw) (w72 hw) (w73 hw) (w74 hw) (by decide) (rm41 l hw a2 z0 x1 x2 h0 W2.old z1 hu3 hc4 hu5 hc6) 0 1 2 (by decide) (by rw [hml]; rfl) (lenOf pd6 rfl) [] rfl rfl 39 (hb hy d3_36) rfl rfl rfl all0 tri ?_
  intro v7 T7 h7 lo7 W7 K7 q7
  obtain ⟨r1_7, r2_7, P7_0, P7_1, rfl⟩ := q7.2.2
  show Gl _ _ _ _ _ _ _ _ [(.ref r1_7)]
  refine o_astore W7 (L' := #[vr a1, vr a2, vi 0, vi 2, .val .null, vr r1_7]) 41 (hb hy d3_39) rfl rfl rfl <| o_aloadN W7 42 (hb hy d3_41) rfl rfl rfl <| o_aload W7 44 (hb hy d3_42) rfl rfl rfl <| o_iloadN W7 45 (hb hy d3_44) rfl rfl ?_
  refine o_staticC W7 (w78 hw) (w79 hw) (w73 hw) (w80 hw) (by decide) (rm42 l hw r1_7 r2_7 x1 x2 h7 W7.old P7_1) 1 1 2 (by decide) (by rw [hml]; rfl) (lenOf pd7 rfl) [(.ref a1)] rfl rfl 48 (hb hy d3_45) rfl rfl rfl all0 tri ?_
  intro v8 T8 h8 lo8 W8 K8 q8
  obtain rfl := q8.2.2
  show Gl _ _ _ _ _ _ _ _ [iZ, (.ref a1)]
  have c9 := ((z2.keep K7).keep K8)
  have c10 := ((z3.keep K7 nin0).keep K8 nin0)
  refine o_putF W8 (w26 hw) Via.refl c10 c9 (Or.inr ⟨(w22 hw), rfl, hnm⟩) (w7 hw) (ty := .byte) (v' := iZ) (by decide) rfl (by decide) z4 m0 tri 51 (hb hy d3_48) rfl ?_
  intro T11 h11 lo11 W11 R11
  have F11 := c10.same R11
  refine o_aloadN W11 52 (hb hy d3_51) rfl rfl rfl <| o_aload W11 54 (hb hy d3_52) rfl rfl rfl ?_
  have c12 := (c9.wr R11)
  have c13 := (((z5.keep K7 nin0).keep K8 nin0).other R11 (Or.inr (slot_ne (Or.inr (w21 hw)) (Or.inr (w22 hw)) (by decide) (t := (.array .byte)) (t' := .byte) (by decide) (by decide))))
  refine o_putF W11 (w25 hw) Via.refl c13 c12 (Or.inr ⟨(w21 hw), rfl, hnm⟩) (w7 hw) (ty := (.array .byte)) (v' := (.ref r1_7)) (by decide) rfl rfl z4 m0 tri 57 (hb hy d3_54) rfl ?_
  intro T14 h14 lo14 W14 R14
  have F14 := c13.same R14
  have c15 := (F11.other R14 (Or.inr (slot_ne (Or.inr (w22 hw)) (Or.inr (w21 hw)) (by decide) (t := .byte) (t' := (.array .byte)) (by decide) (by decide))))
  have c16 := (c12.wr R14)
  have c17 := (((P7_1.keep K8 nin0).other R11 (own_ne' z2.lt P7_0)).other R14 (own_ne' z2.lt P7_0))
  exact o_ret0 W14 hlk hret (hb hy d3_57) (by decide) (by decide) ⟨r1_7, r2_7, (Nat.le_trans W2.keep.1 P7_0), c15, F14, c17, rfl⟩
theorem rm44 (l : Launch) {Z a0} (hw : HW Z a0) (a1 a2 : Addr) (z0 : ClassId) (x1 x2 : Int32) (h0 : Heap) (O0 : Old Z Z.heap.size h0) (z1 : Fld Z h0 a1 s0 "value" "[B" (.ref a2)) (z2 : Arv Z h0 a2 z0 .byte 2 [(.int (bB x1)), (.int (bB x2))] iZ) :
    CtrN l Z mn0 jdk_42_method_55_code 1 (some .boolean) [] (⟨0, 0, 0, 0⟩ : Room) #[(.ref a1)] h0 [] (fun v h => v = some iZ) := by
  refine CtrN.intro (L0 := #[vr a1]) (plainFor_of_name pn1) O0 (own_entry rfl) ?_
  intro p e s m below meth c T0 hy hml hret hlk hnm W0
  refine o_aloadN W0 1 (hb hy d6_0) rfl rfl rfl ?_
  refine o_getF W0 (w25 hw) Via.refl z1 4 (hb hy d6_1) rfl ?_
  intro T1 W1
  refine o_len W1 z2 5 (hb hy d6_4) rfl <| o_ifY W1 12 (hb hy d6_5) (XT.i0_ne_t (by decide)) (by decide) rfl <| o_iconst W1 (v := 0) 13 (hb hy d6_12) rfl rfl ?_
  exact o_retN W1 hlk (t := .boolean) hret (by simp) (z' := (0 : Int32)) (by decide) (hb hy d6_13) (by decide) (by decide) rfl
theorem rm45 (l : Launch) {Z a0} (hw : HW Z a0) (gCS : Int32) (a1 a2 : Addr) (z0 : ClassId) (x1 x2 : Int32) (h0 : Heap) (O0 : Old Z Z.heap.size h0) (z1 : Fld Z h0 a1 s0 "value" "[B" (.ref a2)) (z2 : Arv Z h0 a2 z0 .byte 2 [(.int (bB x1)), (.int (bB x2))] iZ) (z3 : Exa Z h0 a1 s0) (SgCS : Sta Z Z.heap s0 s8 "Z" (.int gCS)) (NgCS : ¬ (gCS = (0 : Int32))) (z4 : Fld Z h0 a1 s0 "coder" "B" iZ) :
    CtrN l Z mn1 jdk_42_method_54_code 1 (some .int) [] (⟨1, 0, 0, 14⟩ : Room) #[(.ref a1)] h0 [] (fun v h => v = some (.int 2)) := by
  refine CtrN.intro (L0 := #[vr a1]) (plainFor_of_name pn1) O0 (own_entry rfl) ?_
  intro p e s m below meth c T0 hy hml hret hlk hnm W0
  refine o_aloadN W0 1 (hb hy d7_0) rfl rfl rfl ?_
  refine o_getF W0 (w25 hw) Via.refl z1 4 (hb hy d7_1) rfl ?_
  intro T1 W1
  refine o_len W1 z2 5 (hb hy d7_4) rfl <| o_aloadN W1 6 (hb hy d7_5) rfl rfl rfl ?_
  refine o_virtualC W1 (w43 hw) (w44 hw) (o_nf W1 rfl (w46 hw)) (w46 hw) (w45 hw) (by decide) z3 (w47 hw) (w8 hw) (rm12 l hw gCS a1 h0 W1.old SgCS NgCS z4) 1 0 0 (by decide) (by rw [hml]; rfl) (lenOf pd8 rfl) [(.int 2)] rfl rfl 9 (hb hy d7_6) rfl rfl rfl all0 tri ?_
  intro v2 T2 h2 lo2 W2 K2 q2
  obtain rfl := q2.2.2
  show Gl _ _ _ _ _ _ _ _ [iZ, (.int 2)]
  refine o_ishr W2 (v := 2) 10 (hb hy d7_9) (by decide) rfl ?_
  exact o_retI W2 hlk hret (hb hy d7_10) (by decide) (by decide) rfl
theorem rm46 (l : Launch) {Z a0} (hw : HW Z a0)  (h0 : Heap) (O0 : Old Z Z.heap.size h0) :
    CtrN l Z mn13 jdk_41_method_11_code 3 (some .int) [] (⟨0, 0, 0, 0⟩ : Room) #[iZ, (.int 2), .null] h0 [] (fun v h => v = some iZ) := by
  refine CtrN.intro (L0 := #[vi 0, vi 2, .val .null]) (plainFor_of_name pn4) O0 (own_entry rfl) ?_
  intro p e s m below meth c T0 hy hml hret hlk hnm W0
  refine o_iloadN W0 1 (hb hy d13_0) rfl rfl <| o_ifN W0 4 (hb hy d13_1) (XT.i0_lt_f (by decide)) rfl <| o_iloadN W0 5 (hb hy d13_4) rfl rfl <| o_iloadN W0 6 (hb hy d13_5) rfl rfl <| o_icmpY W0 16 (hb hy d13_6) (XT.ii_lt_t (by decide)) (by decide) rfl <| o_iloadN W0 17 (hb hy d13_16) rfl rfl ?_
  exact o_retI W0 hlk hret (hb hy d13_17) (by decide) (by decide) rfl
theorem rm47 (l : Launch) {Z a0} (hw : HW Z a0) (a1 : Addr) (h0 : Heap) (O0 : Old Z Z.heap.size h0) :
    CtrN l Z mn13 jdk_41_method_11_code 3 (some .int) [] (⟨0, 0, 0, 0⟩ : Room) #[iZ, (.int 2), (.ref a1)] h0 [] (fun v h => v = some iZ) := by
  refine CtrN.intro (L0 := #[vi 0, vi 2, vr a1]) (plainFor_of_name pn4) O0 (own_entry rfl) ?_
  intro p e s m below meth c T0 hy hml hret hlk hnm W0
  refine o_iloadN W0 1 (hb hy d13_0) rfl rfl <| o_ifN W0 4 (hb hy d13_1) (XT.i0_lt_f (by decide)) rfl <| o_iloadN W0 5 (hb hy d13_4) rfl rfl <| o_iloadN W0 6 (hb hy d13_5) rfl rfl <| o_icmpY W0 16 (hb hy d13_6) (XT.ii_lt_t (by decide)) (by decide) rfl <| o_iloadN W0 17 (hb hy d13_16) rfl rfl ?_
  exact o_retI W0 hlk hret (hb hy d13_17) (by decide) (by decide) rfl
theorem rm48 (l : Launch) {Z a0} (hw : HW Z a0) (gF : Value) (h0 : Heap) (O0 : Old Z Z.heap.size h0) (SgF : Sta Z Z.heap s2 s3 s4 gF) (NgF : gF.isRef = true) :
    CtrN l Z mn14 jdk_42_method_155_code 2 none [] (⟨1, 0, 0, 14⟩ : Room) #[iZ, (.int 2)] h0 [] (fun v h => v = none) := by
  refine CtrN.intro (L0 := #[vi 0, vi 2]) (plainFor_of_name pn1) O0 (own_entry rfl) ?_
  intro p e s m below meth c T0 hy hml hret hlk hnm W0
  refine o_iloadN W0 1 (hb hy d12_0) rfl rfl <| o_iloadN W0 2 (hb hy d12_1) rfl rfl ?_
  rcases ref_cases NgF with rfl | ⟨aF1, rfl⟩
  · refine o_getS W0 (w66 hw) Via.refl (SgF.ext W0.ox) 5 (hb hy d12_2) rfl ?_
    intro T2 W2
    refine o_staticC W2 (w68 hw) (w69 hw) (w67 hw) (w70 hw) (by decide) (rm46 l hw  h0 W2.old ) 0 0 0 (by decide) (by rw [hml]; rfl) (lenOf pd9 rfl) [] rfl rfl 8 (hb hy d12_5) rfl rfl rfl all0 tri ?_
    intro v3 T3 h3 lo3 W3 K3 q3
    obtain rfl := q3.2.2
    show Gl _ _ _ _ _ _ _ _ [iZ]
    refine o_pop W3 9 (hb hy d12_8) rfl rfl ?_
    exact o_ret0 W3 hlk hret (hb hy d12_9) (by decide) (by decide) rfl
  · refine o_getS W0 (w66 hw) Via.refl (SgF.ext W0.ox) 5 (hb hy d12_2) rfl ?_
    intro T4 W4
    refine o_staticC W4 (w68 hw) (w69 hw) (w67 hw) (w70 hw) (by decide) (rm47 l hw aF1 h0 W4.old ) 0 0 0 (by decide) (by rw [hml]; rfl) (lenOf pd9 rfl) [] rfl rfl 8 (hb hy d12_5) rfl rfl rfl all0 tri ?_
    intro v5 T5 h5 lo5 W5 K5 q5
    obtain rfl := q5.2.2
    show Gl _ _ _ _ _ _ _ _ [iZ]
    refine o_pop W5 9 (hb hy d12_8) rfl rfl ?_
    exact o_ret0 W5 hlk hret (hb hy d12_9) (by decide) (by decide) rfl
theorem rm49 (l : Launch) {Z a0} (hw : HW Z a0) (gF : Value) (a1 : Addr) (z0 : ClassId) (x1 x2 : Int32) (h0 : Heap) (O0 : Old Z Z.heap.size h0) (z1 : Arv Z h0 a1 z0 .byte 2 [(.int (bB x1)), (.int (bB x2))] iZ) (SgF : Sta Z Z.heap s2 s3 s4 gF) (NgF : gF.isRef = true) (hu3 : own_c x1) (hc4 : ¬ ((255 : Int32) < x1)) :
    CtrN l Z mn15 jdk_43_method_2_code 2 (some .char) [] (⟨2, 0, 0, 27⟩ : Room) #[(.ref a1), iZ] h0 [] (fun v h => v = some (.int x1)) := by
  refine CtrN.intro (L0 := #[vr a1, vi 0]) (plainFor_of_name pn5) O0 (own_entry rfl) ?_
  intro p e s m below meth c T0 hy hml hret hlk hnm W0
  refine o_iloadN W0 1 (hb hy d11_0) rfl rfl <| o_aloadN W0 2 (hb hy d11_1) rfl rfl rfl <| o_len W0 z1 3 (hb hy d11_2) rfl ?_
  refine o_staticC W0 (w63 hw) (w64 hw) (w8 hw) (w65 hw) (by decide) (rm48 l hw gF h0 W0.old SgF NgF) 0 0 0 (by decide) (by rw [hml]; rfl) (lenOf pd10 rfl) [] rfl rfl 6 (hb hy d11_3) rfl rfl rfl all0 tri ?_
  intro v1 T1 h1 lo1 W1 K1 q1
  obtain rfl := q1.2.2
  show Gl _ _ _ _ _ _ _ _ []
  refine o_aloadN W1 7 (hb hy d11_6) rfl rfl rfl <| o_iloadN W1 8 (hb hy d11_7) rfl rfl ?_
  have c2 := (z1.keep K1 nin0)
  refine o_baload W1 c2 (x := (bB x1)) (i := 0) (by decide) (by decide) (by decide) rfl 9 (hb hy d11_8) rfl <| o_sipush W1 (v := 255) 12 (hb hy d11_9) (by decide) rfl <| o_iand W1 (v := x1) 13 (hb hy d11_12) (own_lo8 (own_cb hu3 hc4)) rfl <| o_i2c W1 (v := x1) 14 (hb hy d11_13) (own_i2cc hu3) rfl ?_
  exact o_retN W1 hlk (t := .char) hret (by simp) (z' := x1) (own_i2cc hu3) (hb hy d11_14) (by decide) (by decide) rfl
theorem rm50 (l : Launch) {Z a0} (hw : HW Z a0) (gCS : Int32) (gF : Value) (a1 a2 : Addr) (z0 : ClassId) (x1 x2 : Int32) (h0 : Heap) (O0 : Old Z Z.heap.size h0) (z1 : Exa Z h0 a1 s0) (SgCS : Sta Z Z.heap s0 s8 "Z" (.int gCS)) (NgCS : ¬ (gCS = (0 : Int32))) (z2 : Fld Z h0 a1 s0 "coder" "B" iZ) (z3 : Fld Z h0 a1 s0 "value" "[B" (.ref a2)) (z4 : Arv Z h0 a2 z0 .byte 2 [(.int (bB x1)), (.int (bB x2))] iZ) (SgF : Sta Z Z.heap s2 s3 s4 gF) (NgF : gF.isRef = true) (hu5 : own_c x1) (hc6 : ¬ ((255 : Int32) < x1)) :
    CtrN l Z mn2 jdk_42_method_56_code 2 (some .char) [] (⟨5, 0, 0, 70⟩ : Room) #[(.ref a1), iZ] h0 [] (fun v h => v = some (.int x1)) := by
  refine CtrN.intro (L0 := #[vr a1, vi 0]) (plainFor_of_name pn1) O0 (own_entry rfl) ?_
  intro p e s m below meth c T0 hy hml hret hlk hnm W0
  refine o_aloadN W0 1 (hb hy d9_0) rfl rfl rfl ?_
  refine o_virtualC W0 (w54 hw) (w55 hw) (o_nf W0 rfl (w57 hw)) (w57 hw) (w56 hw) (by decide) z1 (w58 hw) (w8 hw) (rm14 l hw gCS a1 h0 W0.old SgCS NgCS z2) 0 0 0 (by decide) (by rw [hml]; rfl) (lenOf pd3 rfl) [] rfl rfl 4 (hb hy d9_1) rfl rfl rfl all0 tri ?_
  intro v1 T1 h1 lo1 W1 K1 q1
  obtain rfl := q1.2.2
  show Gl _ _ _ _ _ _ _ _ [(.int 1)]
  refine o_ifN W1 7 (hb hy d9_4) (XT.i0_eq_f (by decide)) rfl <| o_aloadN W1 8 (hb hy d9_7) rfl rfl rfl ?_
  have c2 := (z3.keep K1 nin0)
  refine o_getF W1 (w25 hw) Via.refl c2 11 (hb hy d9_8) rfl ?_
  intro T3 W3
  refine o_iloadN W3 12 (hb hy d9_11) rfl rfl ?_
  have c4 := (z4.keep K1 nin0)
  refine o_staticC W3 (w59 hw) (w60 hw) (w61 hw) (w62 hw) (by decide) (rm49 l hw gF a2 z0 x1 x2 h1 W3.old c4 SgF NgF hu5 hc6) 0 0 0 (by decide) (by rw [hml]; rfl) (lenOf pd11 rfl) [] rfl rfl 15 (hb hy d9_12) rfl rfl rfl all0 tri ?_
  intro v7 T7 h7 lo7 W7 K7 q7
  obtain rfl := q7.2.2
  show Gl _ _ _ _ _ _ _ _ [(.int x1)]
  exact o_retN W7 hlk (t := .char) hret (by simp) (z' := x1) (own_i2cc hu5) (hb hy d9_15) (by decide) (by decide) rfl
theorem rm51 (l : Launch) {Z a0} (hw : HW Z a0)  (h0 : Heap) (O0 : Old Z Z.heap.size h0) :
    CtrN l Z mn13 jdk_41_method_11_code 3 (some .int) [] (⟨0, 0, 0, 0⟩ : Room) #[(.int 1), (.int 2), .null] h0 [] (fun v h => v = some (.int 1)) := by
  refine CtrN.intro (L0 := #[vi 1, vi 2, .val .null]) (plainFor_of_name pn4) O0 (own_entry rfl) ?_
  intro p e s m below meth c T0 hy hml hret hlk hnm W0
  refine o_iloadN W0 1 (hb hy d13_0) rfl rfl <| o_ifN W0 4 (hb hy d13_1) (XT.i0_lt_f (by decide)) rfl <| o_iloadN W0 5 (hb hy d13_4) rfl rfl <| o_iloadN W0 6 (hb hy d13_5) rfl rfl <| o_icmpY W0 16 (hb hy d13_6) (XT.ii_lt_t (by decide)) (by decide) rfl <| o_iloadN W0 17 (hb hy d13_16) rfl rfl ?_
  exact o_retI W0 hlk hret (hb hy d13_17) (by decide) (by decide) rfl
theorem rm52 (l : Launch) {Z a0} (hw : HW Z a0) (a1 : Addr) (h0 : Heap) (O0 : Old Z Z.heap.size h0) :
    CtrN l Z mn13 jdk_41_method_11_code 3 (some .int) [] (⟨0, 0, 0, 0⟩ : Room) #[(.int 1), (.int 2), (.ref a1)] h0 [] (fun v h => v = some (.int 1)) := by
  refine CtrN.intro (L0 := #[vi 1, vi 2, vr a1]) (plainFor_of_name pn4) O0 (own_entry rfl) ?_
  intro p e s m below meth c T0 hy hml hret hlk hnm W0
  refine o_iloadN W0 1 (hb hy d13_0) rfl rfl <| o_ifN W0 4 (hb hy d13_1) (XT.i0_lt_f (by decide)) rfl <| o_iloadN W0 5 (hb hy d13_4) rfl rfl <| o_iloadN W0 6 (hb hy d13_5) rfl rfl <| o_icmpY W0 16 (hb hy d13_6) (XT.ii_lt_t (by decide)) (by decide) rfl <| o_iloadN W0 17 (hb hy d13_16) rfl rfl ?_
  exact o_retI W0 hlk hret (hb hy d13_17) (by decide) (by decide) rfl
theorem rm53 (l : Launch) {Z a0} (hw : HW Z a0) (gF : Value) (h0 : Heap) (O0 : Old Z Z.heap.size h0) (SgF : Sta Z Z.heap s2 s3 s4 gF) (NgF : gF.isRef = true) :
    CtrN l Z mn14 jdk_42_method_155_code 2 none [] (⟨1, 0, 0, 14⟩ : Room) #[(.int 1), (.int 2)] h0 [] (fun v h => v = none) := by
  refine CtrN.intro (L0 := #[vi 1, vi 2]) (plainFor_of_name pn1) O0 (own_entry rfl) ?_
  intro p e s m below meth c T0 hy hml hret hlk hnm W0
  refine o_iloadN W0 1 (hb hy d12_0) rfl rfl <| o_iloadN W0 2 (hb hy d12_1) rfl rfl ?_
  rcases ref_cases NgF with rfl | ⟨aF1, rfl⟩
  · refine o_getS W0 (w66 hw) Via.refl (SgF.ext W0.ox) 5 (hb hy d12_2) rfl ?_
    intro T2 W2
    refine o_staticC W2 (w68 hw) (w69 hw) (w67 hw) (w70 hw) (by decide) (rm51 l hw  h0 W2.old ) 0 0 0 (by decide) (by rw [hml]; rfl) (lenOf pd9 rfl) [] rfl rfl 8 (hb hy d12_5) rfl rfl rfl all0 tri ?_
    intro v3 T3 h3 lo3 W3 K3 q3
    obtain rfl := q3.2.2
    show Gl _ _ _ _ _ _ _ _ [(.int 1)]
    refine o_pop W3 9 (hb hy d12_8) rfl rfl ?_
    exact o_ret0 W3 hlk hret (hb hy d12_9) (by decide) (by decide) rfl
  · refine o_getS W0 (w66 hw) Via.refl (SgF.ext W0.ox) 5 (hb hy d12_2) rfl ?_
    intro T4 W4
    refine o_staticC W4 (w68 hw) (w69 hw) (w67 hw) (w70 hw) (by decide) (rm52 l hw aF1 h0 W4.old ) 0 0 0 (by decide) (by rw [hml]; rfl) (lenOf pd9 rfl) [] rfl rfl 8 (hb hy d12_5) rfl rfl rfl all0 tri ?_
    intro v5 T5 h5 lo5 W5 K5 q5
    obtain rfl := q5.2.2
    show Gl _ _ _ _ _ _ _ _ [(.int 1)]
    refine o_pop W5 9 (hb hy d12_8) rfl rfl ?_
    exact o_ret0 W5 hlk hret (hb hy d12_9) (by decide) (by decide) rfl
theorem rm54 (l : Launch) {Z a0} (hw : HW Z a0) (gF : Value) (a1 : Addr) (z0 : ClassId) (x1 x2 : Int32) (h0 : Heap) (O0 : Old Z Z.heap.size h0) (z1 : Arv Z h0 a1 z0 .byte 2 [(.int (bB x1)), (.int (bB x2))] iZ) (SgF : Sta Z Z.heap s2 s3 s4 gF) (NgF : gF.isRef = true) (hu3 : own_c x2) (hc4 : ¬ ((255 : Int32) < x2)) :
    CtrN l Z mn15 jdk_43_method_2_code 2 (some .char) [] (⟨2, 0, 0, 27⟩ : Room) #[(.ref a1), (.int 1)] h0 [] (fun v h => v = some (.int x2)) := by
  refine CtrN.intro (L0 := #[vr a1, vi 1]) (plainFor_of_name pn5) O0 (own_entry rfl) ?_
  intro p e s m below meth c T0 hy hml hret hlk hnm W0
  refine o_iloadN W0 1 (hb hy d11_0) rfl rfl <| o_aloadN W0 2 (hb hy d11_1) rfl rfl rfl <| o_len W0 z1 3 (hb hy d11_2) rfl ?_
  refine o_staticC W0 (w63 hw) (w64 hw) (w8 hw) (w65 hw) (by decide) (rm53 l hw gF h0 W0.old SgF NgF) 0 0 0 (by decide) (by rw [hml]; rfl) (lenOf pd10 rfl) [] rfl rfl 6 (hb hy d11_3) rfl rfl rfl all0 tri ?_
  intro v1 T1 h1 lo1 W1 K1 q1
  obtain rfl := q1.2.2
  show Gl _ _ _ _ _ _ _ _ []
  refine o_aloadN W1 7 (hb hy d11_6) rfl rfl rfl <| o_iloadN W1 8 (hb hy d11_7) rfl rfl ?_
  have c2 := (z1.keep K1 nin0)
  refine o_baload W1 c2 (x := (bB x2)) (i := 1) (by decide) (by decide) (by decide) rfl 9 (hb hy d11_8) rfl <| o_sipush W1 (v := 255) 12 (hb hy d11_9) (by decide) rfl <| o_iand W1 (v := x2) 13 (hb hy d11_12) (own_lo8 (own_cb hu3 hc4)) rfl <| o_i2c W1 (v := x2) 14 (hb hy d11_13) (own_i2cc hu3) rfl ?_
  exact o_retN W1 hlk (t := .char) hret (by simp) (z' := x2) (own_i2cc hu3) (hb hy d11_14) (by decide) (by decide) rfl
theorem rm55 (l : Launch) {Z a0} (hw : HW Z a0) (gCS : Int32) (gF : Value) (a1 a2 : Addr) (z0 : ClassId) (x1 x2 : Int32) (h0 : Heap) (O0 : Old Z Z.heap.size h0) (z1 : Exa Z h0 a1 s0) (SgCS : Sta Z Z.heap s0 s8 "Z" (.int gCS)) (NgCS : ¬ (gCS = (0 : Int32))) (z2 : Fld Z h0 a1 s0 "coder" "B" iZ) (z3 : Fld Z h0 a1 s0 "value" "[B" (.ref a2)) (z4 : Arv Z h0 a2 z0 .byte 2 [(.int (bB x1)), (.int (bB x2))] iZ) (SgF : Sta Z Z.heap s2 s3 s4 gF) (NgF : gF.isRef = true) (hu5 : own_c x2) (hc6 : ¬ ((255 : Int32) < x2)) :
    CtrN l Z mn2 jdk_42_method_56_code 2 (some .char) [] (⟨5, 0, 0, 70⟩ : Room) #[(.ref a1), (.int 1)] h0 [] (fun v h => v = some (.int x2)) := by
  refine CtrN.intro (L0 := #[vr a1, vi 1]) (plainFor_of_name pn1) O0 (own_entry rfl) ?_
  intro p e s m below meth c T0 hy hml hret hlk hnm W0
  refine o_aloadN W0 1 (hb hy d9_0) rfl rfl rfl ?_
  refine o_virtualC W0 (w54 hw) (w55 hw) (o_nf W0 rfl (w57 hw)) (w57 hw) (w56 hw) (by decide) z1 (w58 hw) (w8 hw) (rm14 l hw gCS a1 h0 W0.old SgCS NgCS z2) 0 0 0 (by decide) (by rw [hml]; rfl) (lenOf pd3 rfl) [] rfl rfl 4 (hb hy d9_1) rfl rfl rfl all0 tri ?_
  intro v1 T1 h1 lo1 W1 K1 q1
  obtain rfl := q1.2.2
  show Gl _ _ _ _ _ _ _ _ [(.int 1)]
  refine o_ifN W1 7 (hb hy d9_4) (XT.i0_eq_f (by decide)) rfl <| o_aloadN W1 8 (hb hy d9_7) rfl rfl rfl ?_
  have c2 := (z3.keep K1 nin0)
  refine o_getF W1 (w25 hw) Via.refl c2 11 (hb hy d9_8) rfl ?_
  intro T3 W3
  refine o_iloadN W3 12 (hb hy d9_11) rfl rfl ?_
  have c4 := (z4.keep K1 nin0)
  refine o_staticC W3 (w59 hw) (w60 hw) (w61 hw) (w62 hw) (by decide) (rm54 l hw gF a2 z0 x1 x2 h1 W3.old c4 SgF NgF hu5 hc6) 0 0 0 (by decide) (by rw [hml]; rfl) (lenOf pd11 rfl) [] rfl rfl 15 (hb hy d9_12) rfl rfl rfl all0 tri ?_
  intro v7 T7 h7 lo7 W7 K7 q7
  obtain rfl := q7.2.2
  show Gl _ _ _ _ _ _ _ _ [(.int x2)]
  exact o_retN W7 hlk (t := .char) hret (by simp) (z' := x2) (own_i2cc hu5) (hb hy d9_15) (by decide) (by decide) rfl
theorem rm56 (l : Launch) {Z a0} (hw : HW Z a0) (a1 a2 : Addr) (z0 : ClassId) (x1 x2 : Int32) (z1 : ClassId) (h0 : Heap) (O0 : Old Z Z.heap.size h0) (z2 : Arv Z h0 a1 z0 .char 2 [(.int x1), (.int x2)] iZ) (hu1 : own_c x1) (hc2 : ¬ ((255 : Int32) < x1)) (z3 : Arv Z h0 a2 z1 .byte 2 [iZ, iZ] iZ) (z4 : Z.heap.size ≤ a2) (z5 : a1 ≠ a2) (hu5 : own_c x2) (hc6 : (255 : Int32) < x2) :
    CtrN l Z mn8 jdk_52_method_21_code 7 (some .int) [] (⟨0, 0, 0, 0⟩ : Room) #[(.ref a1), iZ, (.ref a2), iZ, (.int 2)] h0 [a2] (fun v h => Arv Z h a2 z1 .byte 2 [(.int (bB x1)), iZ] iZ ∧ v = some (.int 1)) := by
  refine CtrN.intro (L0 := #[vr a1, vi 0, vr a2, vi 0, vi 2, un, un]) (plainFor_of_name pn3) O0 (own_entry rfl) ?_
  intro p e s m below meth c T0 hy hml hret hlk hnm W0
  refine o_iconst W0 (v := 0) 1 (hb hy d15_0) rfl rfl <| o_istore W0 (L' := #[vr a1, vi 0, vr a2, vi 0, vi 2, vi 0, un]) 3 (hb hy d15_1) rfl rfl <| o_iload W0 5 (hb hy d15_3) rfl rfl <| o_iload W0 7 (hb hy d15_5) rfl rfl <| o_icmpN W0 10 (hb hy d15_7) (XT.ii_ge_f (by decide)) rfl <| o_aloadN W0 11 (hb hy d15_10) rfl rfl rfl ?_
  refine o_iloadN W0 12 (hb hy d15_11) rfl rfl <| o_caload W0 z2 (x := x1) (i := 0) (by decide) (by decide) (by decide) rfl 13 (hb hy d15_12) rfl <| o_istore W0 (L' := #[vr a1, vi 0, vr a2, vi 0, vi 2, vi 0, vi x1]) 15 (hb hy d15_13) rfl rfl <| o_iload W0 17 (hb hy d15_15) rfl rfl <| o_sipush W0 (v := 255) 20 (hb hy d15_17) (by decide) rfl <| o_icmpY W0 26 (hb hy d15_20) (XT.ii_le_t (own_cb hu1 hc2).2) (by decide) rfl ?_
  refine o_aloadN W0 27 (hb hy d15_26) rfl rfl rfl <| o_iloadN W0 28 (hb hy d15_27) rfl rfl <| o_iload W0 30 (hb hy d15_28) rfl rfl <| o_i2b W0 (v := (bB x1)) 31 (hb hy d15_30) rfl rfl ?_
  refine o_stB W0 z3 (i := 0) (x' := (bB x1)) (by decide) (by decide) (by decide) (Nat.lt_of_sub_eq_succ rfl) (own_b8 _) (vs' := [(.int (bB x1)), iZ]) rfl z4 m0 tri 32 (hb hy d15_31) rfl ?_
  intro T3 h3 lo3 W3 R3 V3
  refine o_iinc W3 (v := 1) (L' := #[vr a1, vi 1, vr a2, vi 0, vi 2, vi 0, vi x1]) 35 (hb hy d15_32) rfl (by decide) rfl rfl <| o_iinc W3 (v := 1) (L' := #[vr a1, vi 1, vr a2, vi 1, vi 2, vi 0, vi x1]) 38 (hb hy d15_35) rfl (by decide) rfl rfl <| o_iinc W3 (v := 1) (L' := #[vr a1, vi 1, vr a2, vi 1, vi 2, vi 1, vi x1]) 41 (hb hy d15_38) rfl (by decide) rfl rfl <| o_goto W3 3 (hb hy d15_41) (by decide) rfl <| o_iload W3 5 (hb hy d15_3) rfl rfl <| o_iload W3 7 (hb hy d15_5) rfl rfl ?_
  refine o_icmpN W3 10 (hb hy d15_7) (XT.ii_ge_f (by decide)) rfl <| o_aloadN W3 11 (hb hy d15_10) rfl rfl rfl <| o_iloadN W3 12 (hb hy d15_11) rfl rfl ?_
  have c4 := (z2.other R3 z5)
  refine o_caload W3 c4 (x := x2) (i := 1) (by decide) (by decide) (by decide) rfl 13 (hb hy d15_12) rfl <| o_istore W3 (L' := #[vr a1, vi 1, vr a2, vi 1, vi 2, vi 1, vi x2]) 15 (hb hy d15_13) rfl rfl <| o_iload W3 17 (hb hy d15_15) rfl rfl <| o_sipush W3 (v := 255) 20 (hb hy d15_17) (by decide) rfl <| o_icmpN W3 23 (hb hy d15_20) (XT.ii_le_f hc6) rfl <| o_iload W3 25 (hb hy d15_23) rfl rfl ?_
  exact o_retI W3 hlk hret (hb hy d15_25) (by decide) (by decide) ⟨V3, rfl⟩
theorem rm57 (l : Launch) {Z a0} (hw : HW Z a0)  (h0 : Heap) (O0 : Old Z Z.heap.size h0) :
    CtrN l Z mn16 jdk_52_method_3_code 1 (some .int) [] (⟨0, 0, 0, 0⟩ : Room) #[(.int 2)] h0 [] (fun v h => v = some (.int 4)) := by
  refine CtrN.intro (L0 := #[vi 2]) (plainFor_of_name pn3) O0 (own_entry rfl) ?_
  intro p e s m below meth c T0 hy hml hret hlk hnm W0
  refine o_iloadN W0 1 (hb hy d20_0) rfl rfl <| o_ifY W0 12 (hb hy d20_1) (XT.i0_ge_t (by decide)) (by decide) rfl <| o_iloadN W0 13 (hb hy d20_12) rfl rfl <| o_ldcI W0 (w93 hw) 15 (hb hy d20_13) rfl <| o_icmpY W0 55 (hb hy d20_15) (XT.ii_lt_t (by decide)) (by decide) rfl <| o_iloadN W0 56 (hb hy d20_55) rfl rfl ?_
  refine o_iconst W0 (v := 1) 57 (hb hy d20_56) rfl rfl <| o_ishl W0 (v := 4) 58 (hb hy d20_57) (by decide) rfl ?_
  exact o_retI W0 hlk hret (hb hy d20_58) (by decide) (by decide) rfl
theorem rm58 (l : Launch) {Z a0} (hw : HW Z a0)  (h0 : Heap) (O0 : Old Z Z.heap.size h0) :
    CtrN l Z mn17 jdk_52_method_2_code 1 (some (.array .byte)) [] (⟨1, 1, 4, 12⟩ : Room) #[(.int 2)] h0 [] (fun v h => ∃ r1 : Addr, ∃ r2 : ClassId, h0.size ≤ r1 ∧ Arv Z h r1 r2 .byte 4 [iZ, iZ, iZ, iZ] iZ ∧ v = some (.ref r1)) := by
  refine CtrN.intro (L0 := #[vi 2]) (plainFor_of_name pn3) O0 (own_entry rfl) ?_
  intro p e s m below meth c T0 hy hml hret hlk hnm W0
  refine o_iloadN W0 1 (hb hy d19_0) rfl rfl ?_
  refine o_staticC W0 (w90 hw) (w91 hw) (w73 hw) (w92 hw) (by decide) (rm57 l hw  h0 W0.old ) 0 0 0 (by decide) (by rw [hml]; rfl) (lenOf pd12 rfl) [] rfl rfl 4 (hb hy d19_1) rfl rfl rfl all0 tri ?_
  intro v1 T1 h1 lo1 W1 K1 q1
  obtain rfl := q1.2.2
  show Gl _ _ _ _ _ _ _ _ [(.int 4)]
  refine o_newP W1 (aty := .byte) (w20 hw) tri (by decide) (cap := 4) (by decide) (by decide) 6 (hb hy d19_4) rfl (cells' := 1) (slots' := 4) rfl rfl (by decide) (by decide) (vs := [iZ, iZ, iZ, iZ]) (dv := iZ) rfl rfl ?_
  intro b2 T2 h2 k2 W2 E2 ge2 gz2 gb2 V2
  exact o_retA W2 hlk (v := (.ref b2)) hret rfl rfl (hb hy d19_6) (by decide) (by decide) ⟨b2, k2, gb2, V2, rfl⟩
theorem rm59 (l : Launch) {Z a0} (hw : HW Z a0) (a1 : Addr) (x1 : Int32) (z0 : ClassId) (h0 : Heap) (O0 : Old Z Z.heap.size h0) (z1 : Sta Z Z.heap s1 s5 "Z" (.int 1)) (z2 : Sta Z Z.heap s1 s6 "I" iZ) (z3 : Arv Z h0 a1 z0 .byte 4 [iZ, iZ, iZ, iZ] iZ) (z4 : Z.heap.size ≤ a1) (z5 : Sta Z Z.heap s1 s7 "I" (.int 8)) :
    CtrN l Z mn18 jdk_52_method_4_code 3 none [] (⟨0, 0, 0, 0⟩ : Room) #[(.ref a1), iZ, (.int x1)] h0 [a1] (fun v h => Arv Z h a1 z0 .byte 4 [(.int (bH x1)), (.int (bL x1)), iZ, iZ] iZ ∧ v = none) := by
  refine CtrN.intro (L0 := #[vr a1, vi 0, vi x1]) (plainFor_of_name pn3) O0 (own_entry rfl) ?_
  intro p e s m below meth c T0 hy hml hret hlk hnm W0
  refine o_getS W0 (w97 hw) Via.refl (z1.ext W0.ox) 3 (hb hy d21_0) rfl ?_
  intro T1 W1
  refine o_ifY W1 28 (hb hy d21_3) (XT.i0_ne_t (by decide)) (by decide) rfl <| o_iloadN W1 29 (hb hy d21_28) rfl rfl <| o_iconst W1 (v := 1) 30 (hb hy d21_29) rfl rfl <| o_ishl W1 (v := 0) 31 (hb hy d21_30) (by decide) rfl <| o_istoreN W1 (L' := #[vr a1, vi 0, vi x1]) 32 (hb hy d21_31) rfl rfl <| o_aloadN W1 33 (hb hy d21_32) rfl rfl rfl ?_
  refine o_iloadN W1 34 (hb hy d21_33) rfl rfl <| o_iinc W1 (v := 1) (L' := #[vr a1, vi 1, vi x1]) 37 (hb hy d21_34) rfl (by decide) rfl rfl <| o_iloadN W1 38 (hb hy d21_37) rfl rfl ?_
  refine o_getS W1 (w98 hw) Via.refl (z2.ext W1.ox) 41 (hb hy d21_38) rfl ?_
  intro T2 W2
  refine o_ishr W2 (v := (x1 >>> ((0 : Int32) &&& 31))) 42 (hb hy d21_41) rfl rfl <| o_i2b W2 (v := (bH x1)) 43 (hb hy d21_42) rfl rfl ?_
  refine o_stB W2 z3 (i := 0) (x' := (bH x1)) (by decide) (by decide) (by decide) (Nat.lt_of_sub_eq_succ rfl) (own_b8 _) (vs' := [(.int (bH x1)), iZ, iZ, iZ]) rfl z4 m0 tri 44 (hb hy d21_43) rfl ?_
  intro T3 h3 lo3 W3 R3 V3
  refine o_aloadN W3 45 (hb hy d21_44) rfl rfl rfl <| o_iloadN W3 46 (hb hy d21_45) rfl rfl <| o_iloadN W3 47 (hb hy d21_46) rfl rfl ?_
  refine o_getS W3 (w99 hw) Via.refl (z5.ext W3.ox) 50 (hb hy d21_47) rfl ?_
  intro T4 W4
  refine o_ishr W4 (v := (x1 >>> ((8 : Int32) &&& 31))) 51 (hb hy d21_50) rfl rfl <| o_i2b W4 (v := (bL x1)) 52 (hb hy d21_51) rfl rfl ?_
  refine o_stB W4 V3 (i := 1) (x' := (bL x1)) (by decide) (by decide) (by decide) (Nat.lt_of_sub_eq_succ rfl) (own_b8 _) (vs' := [(.int (bH x1)), (.int (bL x1)), iZ, iZ]) rfl z4 m0 tri 53 (hb hy d21_52) rfl ?_
  intro T5 h5 lo5 W5 R5 V5
  exact o_ret0 W5 hlk hret (hb hy d21_53) (by decide) (by decide) ⟨V5, rfl⟩
theorem rm60 (l : Launch) {Z a0} (hw : HW Z a0) (a1 : Addr) (x1 : Int32) (z0 : ClassId) (x2 : Int32) (h0 : Heap) (O0 : Old Z Z.heap.size h0) (z1 : Sta Z Z.heap s1 s5 "Z" (.int 1)) (z2 : Sta Z Z.heap s1 s6 "I" iZ) (z3 : Arv Z h0 a1 z0 .byte 4 [(.int (bH x2)), (.int (bL x2)), iZ, iZ] iZ) (z4 : Z.heap.size ≤ a1) (z5 : Sta Z Z.heap s1 s7 "I" (.int 8)) :
    CtrN l Z mn18 jdk_52_method_4_code 3 none [] (⟨0, 0, 0, 0⟩ : Room) #[(.ref a1), (.int 1), (.int x1)] h0 [a1] (fun v h => Arv Z h a1 z0 .byte 4 [(.int (bH x2)), (.int (bL x2)), (.int (bH x1)), (.int (bL x1))] iZ ∧ v = none) := by
  refine CtrN.intro (L0 := #[vr a1, vi 1, vi x1]) (plainFor_of_name pn3) O0 (own_entry rfl) ?_
  intro p e s m below meth c T0 hy hml hret hlk hnm W0
  refine o_getS W0 (w97 hw) Via.refl (z1.ext W0.ox) 3 (hb hy d21_0) rfl ?_
  intro T1 W1
  refine o_ifY W1 28 (hb hy d21_3) (XT.i0_ne_t (by decide)) (by decide) rfl <| o_iloadN W1 29 (hb hy d21_28) rfl rfl <| o_iconst W1 (v := 1) 30 (hb hy d21_29) rfl rfl <| o_ishl W1 (v := 2) 31 (hb hy d21_30) (by decide) rfl <| o_istoreN W1 (L' := #[vr a1, vi 2, vi x1]) 32 (hb hy d21_31) rfl rfl <| o_aloadN W1 33 (hb hy d21_32) rfl rfl rfl ?_
  refine o_iloadN W1 34 (hb hy d21_33) rfl rfl <| o_iinc W1 (v := 3) (L' := #[vr a1, vi 3, vi x1]) 37 (hb hy d21_34) rfl (by decide) rfl rfl <| o_iloadN W1 38 (hb hy d21_37) rfl rfl ?_
  refine o_getS W1 (w98 hw) Via.refl (z2.ext W1.ox) 41 (hb hy d21_38) rfl ?_
  intro T2 W2
  refine o_ishr W2 (v := (x1 >>> ((0 : Int32) &&& 31))) 42 (hb hy d21_41) rfl rfl <| o_i2b W2 (v := (bH x1)) 43 (hb hy d21_42) rfl rfl ?_
  refine o_stB W2 z3 (i := 2) (x' := (bH x1)) (by decide) (by decide) (by decide) (Nat.lt_of_sub_eq_succ rfl) (own_b8 _) (vs' := [(.int (bH x2)), (.int (bL x2)), (.int (bH x1)), iZ]) rfl z4 m0 tri 44 (hb hy d21_43) rfl ?_
  intro T3 h3 lo3 W3 R3 V3
  refine o_aloadN W3 45 (hb hy d21_44) rfl rfl rfl <| o_iloadN W3 46 (hb hy d21_45) rfl rfl <| o_iloadN W3 47 (hb hy d21_46) rfl rfl ?_
  refine o_getS W3 (w99 hw) Via.refl (z5.ext W3.ox) 50 (hb hy d21_47) rfl ?_
  intro T4 W4
  refine o_ishr W4 (v := (x1 >>> ((8 : Int32) &&& 31))) 51 (hb hy d21_50) rfl rfl <| o_i2b W4 (v := (bL x1)) 52 (hb hy d21_51) rfl rfl ?_
  refine o_stB W4 V3 (i := 3) (x' := (bL x1)) (by decide) (by decide) (by decide) (Nat.lt_of_sub_eq_succ rfl) (own_b8 _) (vs' := [(.int (bH x2)), (.int (bL x2)), (.int (bH x1)), (.int (bL x1))]) rfl z4 m0 tri 53 (hb hy d21_52) rfl ?_
  intro T5 h5 lo5 W5 R5 V5
  exact o_ret0 W5 hlk hret (hb hy d21_53) (by decide) (by decide) ⟨V5, rfl⟩
theorem rm61 (l : Launch) {Z a0} (hw : HW Z a0) (a1 : Addr) (z0 : ClassId) (x1 x2 : Int32) (h0 : Heap) (O0 : Old Z Z.heap.size h0) (z1 : Arv Z h0 a1 z0 .char 2 [(.int x1), (.int x2)] iZ) (z2 : Sta Z Z.heap s1 s5 "Z" (.int 1)) (z3 : Sta Z Z.heap s1 s6 "I" iZ) (z4 : Sta Z Z.heap s1 s7 "I" (.int 8)) :
    CtrN l Z mn19 jdk_52_method_14_code 5 (some (.array .byte)) [] (⟨2, 1, 4, 24⟩ : Room) #[(.ref a1), iZ, (.int 2)] h0 [] (fun v h => ∃ r1 : Addr, ∃ r2 : ClassId, h0.size ≤ r1 ∧ Arv Z h r1 r2 .byte 4 [(.int (bH x1)), (.int (bL x1)), (.int (bH x2)), (.int (bL x2))] iZ ∧ v = some (.ref r1)) := by
  refine CtrN.intro (L0 := #[vr a1, vi 0, vi 2, un, un]) (plainFor_of_name pn3) O0 (own_entry rfl) ?_
  intro p e s m below meth c T0 hy hml hret hlk hnm W0
  refine o_iloadN W0 1 (hb hy d18_0) rfl rfl ?_
  refine o_staticC W0 (w87 hw) (w88 hw) (w73 hw) (w89 hw) (by decide) (rm58 l hw  h0 W0.old ) 0 1 4 (by decide) (by rw [hml]; rfl) (lenOf pd13 rfl) [] rfl rfl 4 (hb hy d18_1) rfl rfl rfl all0 tri ?_
  intro v1 T1 h1 lo1 W1 K1 q1
  obtain ⟨r1_1, r2_1, P1_0, P1_1, rfl⟩ := q1.2.2
  show Gl _ _ _ _ _ _ _ _ [(.ref r1_1)]
  refine o_astoreN W1 (L' := #[vr a1, vi 0, vi 2, vr r1_1, un]) 5 (hb hy d18_4) rfl rfl rfl <| o_iconst W1 (v := 0) 6 (hb hy d18_5) rfl rfl <| o_istore W1 (L' := #[vr a1, vi 0, vi 2, vr r1_1, vi 0]) 8 (hb hy d18_6) rfl rfl <| o_iload W1 10 (hb hy d18_8) rfl rfl <| o_iloadN W1 11 (hb hy d18_10) rfl rfl <| o_icmpN W1 14 (hb hy d18_11) (XT.ii_ge_f (by decide)) rfl ?_
  refine o_aloadN W1 15 (hb hy d18_14) rfl rfl rfl <| o_iload W1 17 (hb hy d18_15) rfl rfl <| o_aloadN W1 18 (hb hy d18_17) rfl rfl rfl <| o_iloadN W1 19 (hb hy d18_18) rfl rfl ?_
  have c2 := (z1.keep K1 nin0)
  refine o_caload W1 c2 (x := x1) (i := 0) (by decide) (by decide) (by decide) rfl 20 (hb hy d18_19) rfl ?_
  refine o_staticC W1 (w94 hw) (w95 hw) (w73 hw) (w96 hw) (by decide) (rm59 l hw r1_1 x1 r2_1 h1 W1.old z2 z3 P1_1 (Nat.le_trans W0.zs P1_0) z4) 0 1 4 (by decide) (by rw [hml]; rfl) (lenOf pd14 rfl) [] rfl rfl 23 (hb hy d18_20) rfl rfl rfl (allS ⟨(Nat.le_trans W0.zs P1_0), (Or.inr (Nat.le_trans W0.keep.1 P1_0))⟩ all0) tri ?_
  intro v3 T3 h3 lo3 W3 K3 q3
  obtain ⟨P3_0, rfl⟩ := q3.2.2
  show Gl _ _ _ _ _ _ _ _ []
  refine o_iinc W3 (v := 1) (L' := #[vr a1, vi 1, vi 2, vr r1_1, vi 0]) 26 (hb hy d18_23) rfl (by decide) rfl rfl <| o_iinc W3 (v := 1) (L' := #[vr a1, vi 1, vi 2, vr r1_1, vi 1]) 29 (hb hy d18_26) rfl (by decide) rfl rfl <| o_goto W3 8 (hb hy d18_29) (by decide) rfl <| o_iload W3 10 (hb hy d18_8) rfl rfl <| o_iloadN W3 11 (hb hy d18_10) rfl rfl <| o_icmpN W3 14 (hb hy d18_11) (XT.ii_ge_f (by decide)) rfl ?_
  refine o_aloadN W3 15 (hb hy d18_14) rfl rfl rfl <| o_iload W3 17 (hb hy d18_15) rfl rfl <| o_aloadN W3 18 (hb hy d18_17) rfl rfl rfl <| o_iloadN W3 19 (hb hy d18_18) rfl rfl ?_
  have c4 := (c2.keep K3 (ninS (own_ne z1.lt P1_0) nin0))
  refine o_caload W3 c4 (x := x2) (i := 1) (by decide) (by decide) (by decide) rfl 20 (hb hy d18_19) rfl ?_
  refine o_staticC W3 (w94 hw) (w95 hw) (w73 hw) (w96 hw) (by decide) (rm60 l hw r1_1 x2 r2_1 x1 h3 W3.old z2 z3 P3_0 (Nat.le_trans W0.zs P1_0) z4) 0 1 4 (by decide) (by rw [hml]; rfl) (lenOf pd14 rfl) [] rfl rfl 23 (hb hy d18_20) rfl rfl rfl (allS ⟨(Nat.le_trans W0.zs P1_0), (Or.inr (Nat.le_trans W0.keep.1 P1_0))⟩ all0) tri ?_
  intro v5 T5 h5 lo5 W5 K5 q5
  obtain ⟨P5_0, rfl⟩ := q5.2.2
  show Gl _ _ _ _ _ _ _ _ []
  refine o_iinc W5 (v := 2) (L' := #[vr a1, vi 2, vi 2, vr r1_1, vi 1]) 26 (hb hy d18_23) rfl (by decide) rfl rfl <| o_iinc W5 (v := 2) (L' := #[vr a1, vi 2, vi 2, vr r1_1, vi 2]) 29 (hb hy d18_26) rfl (by decide) rfl rfl <| o_goto W5 8 (hb hy d18_29) (by decide) rfl <| o_iload W5 10 (hb hy d18_8) rfl rfl <| o_iloadN W5 11 (hb hy d18_10) rfl rfl <| o_icmpY W5 32 (hb hy d18_11) (XT.ii_ge_t (by decide)) (by decide) rfl ?_
  refine o_aloadN W5 33 (hb hy d18_32) rfl rfl rfl ?_
  exact o_retA W5 hlk (v := (.ref r1_1)) hret rfl rfl (hb hy d18_33) (by decide) (by decide) ⟨r1_1, r2_1, (Nat.le_trans W0.keep.1 P1_0), P5_0, rfl⟩
theorem rm62 (l : Launch) {Z a0} (hw : HW Z a0) (a1 : Addr) (z0 : ClassId) (x1 x2 : Int32) (h0 : Heap) (O0 : Old Z Z.heap.size h0) (z1 : Sta Z Z.heap s1 s5 "Z" (.int 1)) (z2 : Arv Z h0 a1 z0 .byte 4 [(.int (bH x1)), (.int (bL x1)), (.int (bH x2)), (.int (bL x2))] iZ) (z3 : Sta Z Z.heap s1 s6 "I" iZ) (z4 : Sta Z Z.heap s1 s7 "I" (.int 8)) (hu4 : own_c x2) :
    CtrN l Z mn20 jdk_52_method_5_code 2 (some .char) [] (⟨0, 0, 0, 0⟩ : Room) #[(.ref a1), (.int 1)] h0 [] (fun v h => v = some (.int x2)) := by
  refine CtrN.intro (L0 := #[vr a1, vi 1]) (plainFor_of_name pn3) O0 (own_entry rfl) ?_
  intro p e s m below meth c T0 hy hml hret hlk hnm W0
  refine o_getS W0 (w97 hw) Via.refl (z1.ext W0.ox) 3 (hb hy d22_0) rfl ?_
  intro T1 W1
  refine o_ifY W1 28 (hb hy d22_3) (XT.i0_ne_t (by decide)) (by decide) rfl <| o_iloadN W1 29 (hb hy d22_28) rfl rfl <| o_iconst W1 (v := 1) 30 (hb hy d22_29) rfl rfl <| o_ishl W1 (v := 2) 31 (hb hy d22_30) (by decide) rfl <| o_istoreN W1 (L' := #[vr a1, vi 2]) 32 (hb hy d22_31) rfl rfl <| o_aloadN W1 33 (hb hy d22_32) rfl rfl rfl ?_
  refine o_iloadN W1 34 (hb hy d22_33) rfl rfl <| o_iinc W1 (v := 3) (L' := #[vr a1, vi 3]) 37 (hb hy d22_34) rfl (by decide) rfl rfl <| o_baload W1 z2 (x := (bH x2)) (i := 2) (by decide) (by decide) (by decide) rfl 38 (hb hy d22_37) rfl <| o_sipush W1 (v := 255) 41 (hb hy d22_38) (by decide) rfl <| o_iand W1 (v := ((bH x2) &&& 255)) 42 (hb hy d22_41) rfl rfl ?_
  refine o_getS W1 (w98 hw) Via.refl (z3.ext W1.ox) 45 (hb hy d22_42) rfl ?_
  intro T2 W2
  refine o_ishl W2 (v := (((bH x2) &&& 255) <<< ((0 : Int32) &&& 31))) 46 (hb hy d22_45) rfl rfl <| o_aloadN W2 47 (hb hy d22_46) rfl rfl rfl <| o_iloadN W2 48 (hb hy d22_47) rfl rfl <| o_baload W2 z2 (x := (bL x2)) (i := 3) (by decide) (by decide) (by decide) rfl 49 (hb hy d22_48) rfl <| o_sipush W2 (v := 255) 52 (hb hy d22_49) (by decide) rfl <| o_iand W2 (v := ((bL x2) &&& 255)) 53 (hb hy d22_52) rfl rfl ?_
  refine o_getS W2 (w99 hw) Via.refl (z4.ext W2.ox) 56 (hb hy d22_53) rfl ?_
  intro T3 W3
  refine o_ishl W3 (v := (((bL x2) &&& 255) <<< ((8 : Int32) &&& 31))) 57 (hb hy d22_56) rfl rfl <| o_ior W3 (v := ((((bH x2) &&& 255) <<< ((0 : Int32) &&& 31)) ||| (((bL x2) &&& 255) <<< ((8 : Int32) &&& 31)))) 58 (hb hy d22_57) rfl rfl <| o_i2c W3 (v := x2) 59 (hb hy d22_58) (own_join hu4) rfl ?_
  exact o_retN W3 hlk (t := .char) hret (by simp) (z' := x2) (own_i2cc hu4) (hb hy d22_59) (by decide) (by decide) rfl
theorem rm63 (l : Launch) {Z a0} (hw : HW Z a0) (a1 : Addr) (z0 : ClassId) (x1 x2 : Int32) (h0 : Heap) (O0 : Old Z Z.heap.size h0) (z1 : Arv Z h0 a1 z0 .char 2 [(.int x1), (.int x2)] iZ) (hu3 : own_c x1) (hc4 : ¬ ((255 : Int32) < x1)) (hu5 : own_c x2) (hc6 : (255 : Int32) < x2) (z2 : Sta Z Z.heap s1 s5 "Z" (.int 1)) (z3 : Sta Z Z.heap s1 s6 "I" iZ) (z4 : Sta Z Z.heap s1 s7 "I" (.int 8)) :
    CtrN l Z mn9 jdk_52_method_16_code 6 (some (.array .byte)) [] (⟨3, 2, 6, 40⟩ : Room) #[(.ref a1), iZ, (.int 2)] h0 [] (fun v h => ∃ r1 : Addr, ∃ r2 : ClassId, h0.size ≤ r1 ∧ Arv Z h r1 r2 .byte 4 [(.int (bH x1)), (.int (bL x1)), (.int (bH x2)), (.int (bL x2))] iZ ∧ v = some (.ref r1)) := by
  refine CtrN.intro (L0 := #[vr a1, vi 0, vi 2, un, un, un]) (plainFor_of_name pn3) O0 (own_entry rfl) ?_
  intro p e s m below meth c T0 hy hml hret hlk hnm W0
  refine o_iloadN W0 1 (hb hy d14_0) rfl rfl ?_
  refine o_newP W0 (aty := .byte) (w20 hw) tri (by decide) (cap := 2) (by decide) (by decide) 3 (hb hy d14_1) rfl (cells' := 1) (slots' := 2) rfl rfl (by decide) (by decide) (vs := [iZ, iZ]) (dv := iZ) rfl rfl ?_
  intro b1 T1 h1 k1 W1 E1 ge1 gz1 gb1 V1
  refine o_astoreN W1 (L' := #[vr a1, vi 0, vi 2, vr b1, un, un]) 4 (hb hy d14_3) rfl rfl rfl <| o_aloadN W1 5 (hb hy d14_4) rfl rfl rfl <| o_iloadN W1 6 (hb hy d14_5) rfl rfl <| o_aloadN W1 7 (hb hy d14_6) rfl rfl rfl <| o_iconst W1 (v := 0) 8 (hb hy d14_7) rfl rfl <| o_iloadN W1 9 (hb hy d14_8) rfl rfl ?_
  have c2 := (z1.ext E1)
  refine o_staticC W1 (w75 hw) (w76 hw) (w73 hw) (w77 hw) (by decide) (rm56 l hw a1 b1 z0 x1 x2 k1 h1 W1.old c2 hu3 hc4 V1 gz1 (own_ne z1.lt ge1) hu5 hc6) 0 1 2 (by decide) (by rw [hml]; rfl) (lenOf pd5 rfl) [] rfl rfl 12 (hb hy d14_9) rfl rfl rfl (allS ⟨gz1, (Or.inr gb1)⟩ all0) tri ?_
  intro v7 T7 h7 lo7 W7 K7 q7
  obtain ⟨P7_0, rfl⟩ := q7.2.2
  show Gl _ _ _ _ _ _ _ _ [(.int 1)]
  refine o_istore W7 (L' := #[vr a1, vi 0, vi 2, vr b1, vi 1, un]) 14 (hb hy d14_12) rfl rfl <| o_iload W7 16 (hb hy d14_14) rfl rfl <| o_iloadN W7 17 (hb hy d14_16) rfl rfl <| o_icmpN W7 20 (hb hy d14_17) (XT.ii_eq_f (by decide)) rfl <| o_aloadN W7 21 (hb hy d14_20) rfl rfl rfl <| o_iloadN W7 22 (hb hy d14_21) rfl rfl ?_
  refine o_iloadN W7 23 (hb hy d14_22) rfl rfl ?_
  have c8 := (c2.keep K7 (ninS (own_ne z1.lt ge1) nin0))
  refine o_staticC W7 (w84 hw) (w85 hw) (w73 hw) (w86 hw) (by decide) (rm61 l hw a1 z0 x1 x2 h7 W7.old c8 z2 z3 z4) 0 2 6 (by decide) (by rw [hml]; rfl) (lenOf pd6 rfl) [] rfl rfl 26 (hb hy d14_23) rfl rfl rfl all0 tri ?_
  intro v9 T9 h9 lo9 W9 K9 q9
  obtain ⟨r1_9, r2_9, P9_0, P9_1, rfl⟩ := q9.2.2
  show Gl _ _ _ _ _ _ _ _ [(.ref r1_9)]
  refine o_astore W9 (L' := #[vr a1, vi 0, vi 2, vr b1, vi 1, vr r1_9]) 28 (hb hy d14_26) rfl rfl rfl <| o_aload W9 30 (hb hy d14_28) rfl rfl rfl <| o_iload W9 32 (hb hy d14_30) rfl rfl ?_
  refine o_staticC W9 (w100 hw) (w101 hw) (w73 hw) (w102 hw) (by decide) (rm62 l hw r1_9 r2_9 x1 x2 h9 W9.old z2 P9_1 z3 z4 hu5) 0 2 6 (by decide) (by rw [hml]; rfl) (lenOf pd11 rfl) [] rfl rfl 35 (hb hy d14_32) rfl rfl rfl all0 tri ?_
  intro v10 T10 h10 lo10 W10 K10 q10
  obtain rfl := q10.2.2
  show Gl _ _ _ _ _ _ _ _ [(.int x2)]
  refine o_sipush W10 (v := 255) 38 (hb hy d14_35) (by decide) rfl <| o_icmpY W10 54 (hb hy d14_38) (XT.ii_gt_t hc6) (by decide) rfl <| o_aload W10 56 (hb hy d14_54) rfl rfl rfl ?_
  have c11 := (P9_1.keep K10 nin0)
  exact o_retA W10 hlk (v := (.ref r1_9)) hret rfl rfl (hb hy d14_56) (by decide) (by decide) ⟨r1_9, r2_9, (Nat.le_trans W7.keep.1 P9_0), c11, rfl⟩
theorem rm64 (l : Launch) {Z a0} (hw : HW Z a0) (a1 : Addr) (z0 : ClassId) (x1 x2 : Int32) (h0 : Heap) (O0 : Old Z Z.heap.size h0) (z1 : Arv Z h0 a1 z0 .byte 4 [(.int (bH x1)), (.int (bL x1)), (.int (bH x2)), (.int (bL x2))] iZ) :
    CtrN l Z mn10 jdk_52_method_15_code 2 (some .byte) [] (⟨0, 0, 0, 0⟩ : Room) #[(.ref a1), (.int 2)] h0 [] (fun v h => v = some (.int 1)) := by
  refine CtrN.intro (L0 := #[vr a1, vi 2]) (plainFor_of_name pn3) O0 (own_entry rfl) ?_
  intro p e s m below meth c T0 hy hml hret hlk hnm W0
  refine o_iloadN W0 1 (hb hy d16_0) rfl rfl <| o_aloadN W0 2 (hb hy d16_1) rfl rfl rfl <| o_len W0 z1 3 (hb hy d16_2) rfl <| o_isub W0 (v := (-2 : Int32)) 4 (hb hy d16_3) (by decide) rfl <| o_bipush W0 (v := 31) 6 (hb hy d16_4) (by decide) rfl <| o_iushr W0 (v := 1) 7 (hb hy d16_6) (by decide) rfl ?_
  refine o_i2b W0 (v := 1) 8 (hb hy d16_7) (by decide) rfl ?_
  exact o_retN W0 hlk (t := .byte) hret (by simp) (z' := (1 : Int32)) (by decide) (hb hy d16_8) (by decide) (by decide) rfl
theorem rm65 (l : Launch) {Z a0} (hw : HW Z a0) (gCS : Int32) (a1 a2 : Addr) (z0 : ClassId) (x1 x2 : Int32) (h0 : Heap) (O0 : Old Z Z.heap.size h0) (SgCS : Sta Z Z.heap s0 s8 "Z" (.int gCS)) (NgCS : ¬ (gCS = (0 : Int32))) (z1 : Arv Z h0 a2 z0 .char 2 [(.int x1), (.int x2)] iZ) (hu3 : own_c x1) (hc4 : ¬ ((255 : Int32) < x1)) (hu5 : own_c x2) (hc6 : (255 : Int32) < x2) (z2 : Sta Z Z.heap s1 s5 "Z" (.int 1)) (z3 : Sta Z Z.heap s1 s6 "I" iZ) (z4 : Sta Z Z.heap s1 s7 "I" (.int 8)) (z5 : Exa Z h0 a1 s0) (z6 : Fld Z h0 a1 s0 "coder" "B" iZ) (z7 : Z.heap.size ≤ a1) (z8 : Fld Z h0 a1 s0 "value" "[B" .null) :
    CtrN l Z mn5 jdk_42_method_149_code 6 none [] (⟨4, 2, 6, 57⟩ : Room) #[(.ref a1), (.ref a2), iZ, (.int 2), .null] h0 [a1] (fun v h => ∃ r1 : Addr, ∃ r2 : ClassId, h0.size ≤ r1 ∧ Fld Z h a1 s0 "coder" "B" (.int 1) ∧ Fld Z h a1 s0 "value" "[B" (.ref r1) ∧ Arv Z h r1 r2 .byte 4 [(.int (bH x1)), (.int (bL x1)), (.int (bH x2)), (.int (bL x2))] iZ ∧ v = none) := by
  refine CtrN.intro (L0 := #[vr a1, vr a2, vi 0, vi 2, .val .null, un]) (plainFor_of_name pn1) O0 (own_entry rfl) ?_
  intro p e s m below meth c T0 hy hml hret hlk hnm W0
  refine o_aloadN W0 1 (hb hy d3_0) rfl rfl rfl ?_
  refine o_initO W0 (w16 hw) (w17 hw) (w18 hw) (by rw [hml]; rfl) 4 (hb hy d3_1) rfl (by decide) 0 (by exact Nat.le_of_eq rfl) (by decide) ?_
  intro T1 W1
  refine o_iloadN W1 5 (hb hy d3_4) rfl rfl <| o_ifY W1 27 (hb hy d3_5) (XT.i0_ne_t (by decide)) (by decide) rfl ?_
  refine o_getS W1 (w48 hw) Via.refl (SgCS.ext W1.ox) 30 (hb hy d3_27) rfl ?_
  intro T2 W2
  refine o_ifN W2 33 (hb hy d3_30) (XT.i0_eq_f NgCS) rfl <| o_aloadN W2 34 (hb hy d3_33) rfl rfl rfl <| o_iloadN W2 35 (hb hy d3_34) rfl rfl <| o_iloadN W2 36 (hb hy d3_35) rfl rfl ?_
  refine o_staticC W2 (w71 hw) (w72 hw) (w73 hw) (w74 hw) (by decide) (rm63 l hw a2 z0 x1 x2 h0 W2.old z1 hu3 hc4 hu5 hc6 z2 z3 z4) 0 2 6 (by decide) (by rw [hml]; rfl) (lenOf pd6 rfl) [] rfl rfl 39 (hb hy d3_36) rfl rfl rfl all0 tri ?_
  intro v7 T7 h7 lo7 W7 K7 q7
  obtain ⟨r1_7, r2_7, P7_0, P7_1, rfl⟩ := q7.2.2
  show Gl _ _ _ _ _ _ _ _ [(.ref r1_7)]
  refine o_astore W7 (L' := #[vr a1, vr a2, vi 0, vi 2, .val .null, vr r1_7]) 41 (hb hy d3_39) rfl rfl rfl <| o_aloadN W7 42 (hb hy d3_41) rfl rfl rfl <| o_aload W7 44 (hb hy d3_42) rfl rfl rfl <| o_iloadN W7 45 (hb hy d3_44) rfl rfl ?_
  refine o_staticC W7 (w78 hw) (w79 hw) (w73 hw) (w80 hw) (by decide) (rm64 l hw r1_7 r2_7 x1 x2 h7 W7.old P7_1) 1 2 6 (by decide) (by rw [hml]; rfl) (lenOf pd7 rfl) [(.ref a1)] rfl rfl 48 (hb hy d3_45) rfl rfl rfl all0 tri ?_
  intro v8 T8 h8 lo8 W8 K8 q8
  obtain rfl := q8.2.2
  show Gl _ _ _ _ _ _ _ _ [(.int 1), (.ref a1)]
  have c9 := ((z5.keep K7).keep K8)
  have c10 := ((z6.keep K7 nin0).keep K8 nin0)
  refine o_putF W8 (w26 hw) Via.refl c10 c9 (Or.inr ⟨(w22 hw), rfl, hnm⟩) (w7 hw) (ty := .byte) (v' := (.int 1)) (by decide) rfl (by decide) z7 m0 tri 51 (hb hy d3_48) rfl ?_
  intro T11 h11 lo11 W11 R11
  have F11 := c10.same R11
  refine o_aloadN W11 52 (hb hy d3_51) rfl rfl rfl <| o_aload W11 54 (hb hy d3_52) rfl rfl rfl ?_
  have c12 := (c9.wr R11)
  have c13 := (((z8.keep K7 nin0).keep K8 nin0).other R11 (Or.inr (slot_ne (Or.inr (w21 hw)) (Or.inr (w22 hw)) (by decide) (t := (.array .byte)) (t' := .byte) (by decide) (by decide))))
  refine o_putF W11 (w25 hw) Via.refl c13 c12 (Or.inr ⟨(w21 hw), rfl, hnm⟩) (w7 hw) (ty := (.array .byte)) (v' := (.ref r1_7)) (by decide) rfl rfl z7 m0 tri 57 (hb hy d3_54) rfl ?_
  intro T14 h14 lo14 W14 R14
  have F14 := c13.same R14
  have c15 := (F11.other R14 (Or.inr (slot_ne (Or.inr (w22 hw)) (Or.inr (w21 hw)) (by decide) (t := .byte) (t' := (.array .byte)) (by decide) (by decide))))
  have c16 := (c12.wr R14)
  have c17 := (((P7_1.keep K8 nin0).other R11 (own_ne' z5.lt P7_0)).other R14 (own_ne' z5.lt P7_0))
  exact o_ret0 W14 hlk hret (hb hy d3_57) (by decide) (by decide) ⟨r1_7, r2_7, (Nat.le_trans W2.keep.1 P7_0), c15, F14, c17, rfl⟩
theorem rm66 (l : Launch) {Z a0} (hw : HW Z a0) (a1 a2 : Addr) (z0 : ClassId) (x1 x2 : Int32) (h0 : Heap) (O0 : Old Z Z.heap.size h0) (z1 : Fld Z h0 a1 s0 "value" "[B" (.ref a2)) (z2 : Arv Z h0 a2 z0 .byte 4 [(.int (bH x1)), (.int (bL x1)), (.int (bH x2)), (.int (bL x2))] iZ) :
    CtrN l Z mn0 jdk_42_method_55_code 1 (some .boolean) [] (⟨0, 0, 0, 0⟩ : Room) #[(.ref a1)] h0 [] (fun v h => v = some iZ) := by
  refine CtrN.intro (L0 := #[vr a1]) (plainFor_of_name pn1) O0 (own_entry rfl) ?_
  intro p e s m below meth c T0 hy hml hret hlk hnm W0
  refine o_aloadN W0 1 (hb hy d6_0) rfl rfl rfl ?_
  refine o_getF W0 (w25 hw) Via.refl z1 4 (hb hy d6_1) rfl ?_
  intro T1 W1
  refine o_len W1 z2 5 (hb hy d6_4) rfl <| o_ifY W1 12 (hb hy d6_5) (XT.i0_ne_t (by decide)) (by decide) rfl <| o_iconst W1 (v := 0) 13 (hb hy d6_12) rfl rfl ?_
  exact o_retN W1 hlk (t := .boolean) hret (by simp) (z' := (0 : Int32)) (by decide) (hb hy d6_13) (by decide) (by decide) rfl
theorem rm67 (l : Launch) {Z a0} (hw : HW Z a0) (gCS : Int32) (a1 a2 : Addr) (z0 : ClassId) (x1 x2 : Int32) (h0 : Heap) (O0 : Old Z Z.heap.size h0) (z1 : Fld Z h0 a1 s0 "value" "[B" (.ref a2)) (z2 : Arv Z h0 a2 z0 .byte 4 [(.int (bH x1)), (.int (bL x1)), (.int (bH x2)), (.int (bL x2))] iZ) (z3 : Exa Z h0 a1 s0) (SgCS : Sta Z Z.heap s0 s8 "Z" (.int gCS)) (NgCS : ¬ (gCS = (0 : Int32))) (z4 : Fld Z h0 a1 s0 "coder" "B" (.int 1)) :
    CtrN l Z mn1 jdk_42_method_54_code 1 (some .int) [] (⟨1, 0, 0, 14⟩ : Room) #[(.ref a1)] h0 [] (fun v h => v = some (.int 2)) := by
  refine CtrN.intro (L0 := #[vr a1]) (plainFor_of_name pn1) O0 (own_entry rfl) ?_
  intro p e s m below meth c T0 hy hml hret hlk hnm W0
  refine o_aloadN W0 1 (hb hy d7_0) rfl rfl rfl ?_
  refine o_getF W0 (w25 hw) Via.refl z1 4 (hb hy d7_1) rfl ?_
  intro T1 W1
  refine o_len W1 z2 5 (hb hy d7_4) rfl <| o_aloadN W1 6 (hb hy d7_5) rfl rfl rfl ?_
  refine o_virtualC W1 (w43 hw) (w44 hw) (o_nf W1 rfl (w46 hw)) (w46 hw) (w45 hw) (by decide) z3 (w47 hw) (w8 hw) (rm30 l hw gCS a1 h0 W1.old SgCS NgCS z4) 1 0 0 (by decide) (by rw [hml]; rfl) (lenOf pd8 rfl) [(.int 4)] rfl rfl 9 (hb hy d7_6) rfl rfl rfl all0 tri ?_
  intro v2 T2 h2 lo2 W2 K2 q2
  obtain rfl := q2.2.2
  show Gl _ _ _ _ _ _ _ _ [(.int 1), (.int 4)]
  refine o_ishr W2 (v := 2) 10 (hb hy d7_9) (by decide) rfl ?_
  exact o_retI W2 hlk hret (hb hy d7_10) (by decide) (by decide) rfl
theorem rm68 (l : Launch) {Z a0} (hw : HW Z a0) (a1 : Addr) (z0 : ClassId) (x1 x2 : Int32) (h0 : Heap) (O0 : Old Z Z.heap.size h0) (z1 : Arv Z h0 a1 z0 .byte 4 [(.int (bH x1)), (.int (bL x1)), (.int (bH x2)), (.int (bL x2))] iZ) :
    CtrN l Z mn21 jdk_52_method_6_code 1 (some .int) [] (⟨0, 0, 0, 0⟩ : Room) #[(.ref a1)] h0 [] (fun v h => v = some (.int 2)) := by
  refine CtrN.intro (L0 := #[vr a1]) (plainFor_of_name pn3) O0 (own_entry rfl) ?_
  intro p e s m below meth c T0 hy hml hret hlk hnm W0
  refine o_aloadN W0 1 (hb hy d25_0) rfl rfl rfl <| o_len W0 z1 2 (hb hy d25_1) rfl <| o_iconst W0 (v := 1) 3 (hb hy d25_2) rfl rfl <| o_ishr W0 (v := 2) 4 (hb hy d25_3) (by decide) rfl ?_
  exact o_retI W0 hlk hret (hb hy d25_4) (by decide) (by decide) rfl
theorem rm69 (l : Launch) {Z a0} (hw : HW Z a0) (gF : Value) (a1 : Addr) (z0 : ClassId) (x1 x2 : Int32) (h0 : Heap) (O0 : Old Z Z.heap.size h0) (z1 : Arv Z h0 a1 z0 .byte 4 [(.int (bH x1)), (.int (bL x1)), (.int (bH x2)), (.int (bL x2))] iZ) (SgF : Sta Z Z.heap s2 s3 s4 gF) (NgF : gF.isRef = true) :
    CtrN l Z mn22 jdk_52_method_91_code 2 none [] (⟨2, 0, 0, 27⟩ : Room) #[iZ, (.ref a1)] h0 [] (fun v h => v = none) := by
  refine CtrN.intro (L0 := #[vi 0, vr a1]) (plainFor_of_name pn3) O0 (own_entry rfl) ?_
  intro p e s m below meth c T0 hy hml hret hlk hnm W0
  refine o_iloadN W0 1 (hb hy d24_0) rfl rfl <| o_aloadN W0 2 (hb hy d24_1) rfl rfl rfl ?_
  refine o_staticC W0 (w109 hw) (w110 hw) (w73 hw) (w111 hw) (by decide) (rm68 l hw a1 z0 x1 x2 h0 W0.old z1) 1 0 0 (by decide) (by rw [hml]; rfl) (lenOf pd15 rfl) [iZ] rfl rfl 5 (hb hy d24_2) rfl rfl rfl all0 tri ?_
  intro v1 T1 h1 lo1 W1 K1 q1
  obtain rfl := q1.2.2
  show Gl _ _ _ _ _ _ _ _ [(.int 2), iZ]
  refine o_staticC W1 (w112 hw) (w64 hw) (w8 hw) (w65 hw) (by decide) (rm48 l hw gF h1 W1.old SgF NgF) 0 0 0 (by decide) (by rw [hml]; rfl) (lenOf pd10 rfl) [] rfl rfl 8 (hb hy d24_5) rfl rfl rfl all0 tri ?_
  intro v2 T2 h2 lo2 W2 K2 q2
  obtain rfl := q2.2.2
  show Gl _ _ _ _ _ _ _ _ []
  exact o_ret0 W2 hlk hret (hb hy d24_8) (by decide) (by decide) rfl
theorem rm70 (l : Launch) {Z a0} (hw : HW Z a0) (a1 : Addr) (z0 : ClassId) (x1 x2 : Int32) (h0 : Heap) (O0 : Old Z Z.heap.size h0) (z1 : Sta Z Z.heap s1 s5 "Z" (.int 1)) (z2 : Arv Z h0 a1 z0 .byte 4 [(.int (bH x1)), (.int (bL x1)), (.int (bH x2)), (.int (bL x2))] iZ) (z3 : Sta Z Z.heap s1 s6 "I" iZ) (z4 : Sta Z Z.heap s1 s7 "I" (.int 8)) (hu4 : own_c x1) :
    CtrN l Z mn20 jdk_52_method_5_code 2 (some .char) [] (⟨0, 0, 0, 0⟩ : Room) #[(.ref a1), iZ] h0 [] (fun v h => v = some (.int x1)) := by
  refine CtrN.intro (L0 := #[vr a1, vi 0]) (plainFor_of_name pn3) O0 (own_entry rfl) ?_
  intro p e s m below meth c T0 hy hml hret hlk hnm W0
  refine o_getS W0 (w97 hw) Via.refl (z1.ext W0.ox) 3 (hb hy d22_0) rfl ?_
  intro T1 W1
  refine o_ifY W1 28 (hb hy d22_3) (XT.i0_ne_t (by decide)) (by decide) rfl <| o_iloadN W1 29 (hb hy d22_28) rfl rfl <| o_iconst W1 (v := 1) 30 (hb hy d22_29) rfl rfl <| o_ishl W1 (v := 0) 31 (hb hy d22_30) (by decide) rfl <| o_istoreN W1 (L' := #[vr a1, vi 0]) 32 (hb hy d22_31) rfl rfl <| o_aloadN W1 33 (hb hy d22_32) rfl rfl rfl ?_
  refine o_iloadN W1 34 (hb hy d22_33) rfl rfl <| o_iinc W1 (v := 1) (L' := #[vr a1, vi 1]) 37 (hb hy d22_34) rfl (by decide) rfl rfl <| o_baload W1 z2 (x := (bH x1)) (i := 0) (by decide) (by decide) (by decide) rfl 38 (hb hy d22_37) rfl <| o_sipush W1 (v := 255) 41 (hb hy d22_38) (by decide) rfl <| o_iand W1 (v := ((bH x1) &&& 255)) 42 (hb hy d22_41) rfl rfl ?_
  refine o_getS W1 (w98 hw) Via.refl (z3.ext W1.ox) 45 (hb hy d22_42) rfl ?_
  intro T2 W2
  refine o_ishl W2 (v := (((bH x1) &&& 255) <<< ((0 : Int32) &&& 31))) 46 (hb hy d22_45) rfl rfl <| o_aloadN W2 47 (hb hy d22_46) rfl rfl rfl <| o_iloadN W2 48 (hb hy d22_47) rfl rfl <| o_baload W2 z2 (x := (bL x1)) (i := 1) (by decide) (by decide) (by decide) rfl 49 (hb hy d22_48) rfl <| o_sipush W2 (v := 255) 52 (hb hy d22_49) (by decide) rfl <| o_iand W2 (v := ((bL x1) &&& 255)) 53 (hb hy d22_52) rfl rfl ?_
  refine o_getS W2 (w99 hw) Via.refl (z4.ext W2.ox) 56 (hb hy d22_53) rfl ?_
  intro T3 W3
  refine o_ishl W3 (v := (((bL x1) &&& 255) <<< ((8 : Int32) &&& 31))) 57 (hb hy d22_56) rfl rfl <| o_ior W3 (v := ((((bH x1) &&& 255) <<< ((0 : Int32) &&& 31)) ||| (((bL x1) &&& 255) <<< ((8 : Int32) &&& 31)))) 58 (hb hy d22_57) rfl rfl <| o_i2c W3 (v := x1) 59 (hb hy d22_58) (own_join hu4) rfl ?_
  exact o_retN W3 hlk (t := .char) hret (by simp) (z' := x1) (own_i2cc hu4) (hb hy d22_59) (by decide) (by decide) rfl
theorem rm71 (l : Launch) {Z a0} (hw : HW Z a0) (gF : Value) (a1 : Addr) (z0 : ClassId) (x1 x2 : Int32) (h0 : Heap) (O0 : Old Z Z.heap.size h0) (z1 : Arv Z h0 a1 z0 .byte 4 [(.int (bH x1)), (.int (bL x1)), (.int (bH x2)), (.int (bL x2))] iZ) (SgF : Sta Z Z.heap s2 s3 s4 gF) (NgF : gF.isRef = true) (z2 : Sta Z Z.heap s1 s5 "Z" (.int 1)) (z3 : Sta Z Z.heap s1 s6 "I" iZ) (z4 : Sta Z Z.heap s1 s7 "I" (.int 8)) (hu3 : own_c x1) :
    CtrN l Z mn23 jdk_52_method_83_code 2 (some .char) [] (⟨3, 0, 0, 40⟩ : Room) #[(.ref a1), iZ] h0 [] (fun v h => v = some (.int x1)) := by
  refine CtrN.intro (L0 := #[vr a1, vi 0]) (plainFor_of_name pn3) O0 (own_entry rfl) ?_
  intro p e s m below meth c T0 hy hml hret hlk hnm W0
  refine o_iloadN W0 1 (hb hy d23_0) rfl rfl <| o_aloadN W0 2 (hb hy d23_1) rfl rfl rfl ?_
  refine o_staticC W0 (w106 hw) (w107 hw) (w73 hw) (w108 hw) (by decide) (rm69 l hw gF a1 z0 x1 x2 h0 W0.old z1 SgF NgF) 0 0 0 (by decide) (by rw [hml]; rfl) (lenOf pd16 rfl) [] rfl rfl 5 (hb hy d23_2) rfl rfl rfl all0 tri ?_
  intro v1 T1 h1 lo1 W1 K1 q1
  obtain rfl := q1.2.2
  show Gl _ _ _ _ _ _ _ _ []
  refine o_aloadN W1 6 (hb hy d23_5) rfl rfl rfl <| o_iloadN W1 7 (hb hy d23_6) rfl rfl ?_
  have c2 := (z1.keep K1 nin0)
  refine o_staticC W1 (w100 hw) (w101 hw) (w73 hw) (w102 hw) (by decide) (rm70 l hw a1 z0 x1 x2 h1 W1.old z2 c2 z3 z4 hu3) 0 0 0 (by decide) (by rw [hml]; rfl) (lenOf pd11 rfl) [] rfl rfl 10 (hb hy d23_7) rfl rfl rfl all0 tri ?_
  intro v4 T4 h4 lo4 W4 K4 q4
  obtain rfl := q4.2.2
  show Gl _ _ _ _ _ _ _ _ [(.int x1)]
  exact o_retN W4 hlk (t := .char) hret (by simp) (z' := x1) (own_i2cc hu3) (hb hy d23_10) (by decide) (by decide) rfl
theorem rm72 (l : Launch) {Z a0} (hw : HW Z a0) (gCS : Int32) (gF : Value) (a1 a2 : Addr) (z0 : ClassId) (x1 x2 : Int32) (h0 : Heap) (O0 : Old Z Z.heap.size h0) (z1 : Exa Z h0 a1 s0) (SgCS : Sta Z Z.heap s0 s8 "Z" (.int gCS)) (NgCS : ¬ (gCS = (0 : Int32))) (z2 : Fld Z h0 a1 s0 "coder" "B" (.int 1)) (z3 : Fld Z h0 a1 s0 "value" "[B" (.ref a2)) (z4 : Arv Z h0 a2 z0 .byte 4 [(.int (bH x1)), (.int (bL x1)), (.int (bH x2)), (.int (bL x2))] iZ) (SgF : Sta Z Z.heap s2 s3 s4 gF) (NgF : gF.isRef = true) (z5 : Sta Z Z.heap s1 s5 "Z" (.int 1)) (z6 : Sta Z Z.heap s1 s6 "I" iZ) (z7 : Sta Z Z.heap s1 s7 "I" (.int 8)) (hu5 : own_c x1) :
    CtrN l Z mn2 jdk_42_method_56_code 2 (some .char) [] (⟨5, 0, 0, 70⟩ : Room) #[(.ref a1), iZ] h0 [] (fun v h => v = some (.int x1)) := by
  refine CtrN.intro (L0 := #[vr a1, vi 0]) (plainFor_of_name pn1) O0 (own_entry rfl) ?_
  intro p e s m below meth c T0 hy hml hret hlk hnm W0
  refine o_aloadN W0 1 (hb hy d9_0) rfl rfl rfl ?_
  refine o_virtualC W0 (w54 hw) (w55 hw) (o_nf W0 rfl (w57 hw)) (w57 hw) (w56 hw) (by decide) z1 (w58 hw) (w8 hw) (rm32 l hw gCS a1 h0 W0.old SgCS NgCS z2) 0 0 0 (by decide) (by rw [hml]; rfl) (lenOf pd3 rfl) [] rfl rfl 4 (hb hy d9_1) rfl rfl rfl all0 tri ?_
  intro v1 T1 h1 lo1 W1 K1 q1
  obtain rfl := q1.2.2
  show Gl _ _ _ _ _ _ _ _ [iZ]
  refine o_ifY W1 16 (hb hy d9_4) (XT.i0_eq_t (by decide)) (by decide) rfl <| o_aloadN W1 17 (hb hy d9_16) rfl rfl rfl ?_
  have c2 := (z3.keep K1 nin0)
  refine o_getF W1 (w25 hw) Via.refl c2 20 (hb hy d9_17) rfl ?_
  intro T3 W3
  refine o_iloadN W3 21 (hb hy d9_20) rfl rfl ?_
  have c4 := (z4.keep K1 nin0)
  refine o_staticC W3 (w103 hw) (w104 hw) (w73 hw) (w105 hw) (by decide) (rm71 l hw gF a2 z0 x1 x2 h1 W3.old c4 SgF NgF z5 z6 z7 hu5) 0 0 0 (by decide) (by rw [hml]; rfl) (lenOf pd11 rfl) [] rfl rfl 24 (hb hy d9_21) rfl rfl rfl all0 tri ?_
  intro v6 T6 h6 lo6 W6 K6 q6
  obtain rfl := q6.2.2
  show Gl _ _ _ _ _ _ _ _ [(.int x1)]
  exact o_retN W6 hlk (t := .char) hret (by simp) (z' := x1) (own_i2cc hu5) (hb hy d9_24) (by decide) (by decide) rfl
theorem rm73 (l : Launch) {Z a0} (hw : HW Z a0) (gF : Value) (a1 : Addr) (z0 : ClassId) (x1 x2 : Int32) (h0 : Heap) (O0 : Old Z Z.heap.size h0) (z1 : Arv Z h0 a1 z0 .byte 4 [(.int (bH x1)), (.int (bL x1)), (.int (bH x2)), (.int (bL x2))] iZ) (SgF : Sta Z Z.heap s2 s3 s4 gF) (NgF : gF.isRef = true) :
    CtrN l Z mn22 jdk_52_method_91_code 2 none [] (⟨2, 0, 0, 27⟩ : Room) #[(.int 1), (.ref a1)] h0 [] (fun v h => v = none) := by
  refine CtrN.intro (L0 := #[vi 1, vr a1]) (plainFor_of_name pn3) O0 (own_entry rfl) ?_
  intro p e s m below meth c T0 hy hml hret hlk hnm W0
  refine o_iloadN W0 1 (hb hy d24_0) rfl rfl <| o_aloadN W0 2 (hb hy d24_1) rfl rfl rfl ?_
  refine o_staticC W0 (w109 hw) (w110 hw) (w73 hw) (w111 hw) (by decide) (rm68 l hw a1 z0 x1 x2 h0 W0.old z1) 1 0 0 (by decide) (by rw [hml]; rfl) (lenOf pd15 rfl) [(.int 1)] rfl rfl 5 (hb hy d24_2) rfl rfl rfl all0 tri ?_
  intro v1 T1 h1 lo1 W1 K1 q1
  obtain rfl := q1.2.2
  show Gl _ _ _ _ _ _ _ _ [(.int 2), (.int 1)]
  refine o_staticC W1 (w112 hw) (w64 hw) (w8 hw) (w65 hw) (by decide) (rm53 l hw gF h1 W1.old SgF NgF) 0 0 0 (by decide) (by rw [hml]; rfl) (lenOf pd10 rfl) [] rfl rfl 8 (hb hy d24_5) rfl rfl rfl all0 tri ?_
  intro v2 T2 h2 lo2 W2 K2 q2
  obtain rfl := q2.2.2
  show Gl _ _ _ _ _ _ _ _ []
  exact o_ret0 W2 hlk hret (hb hy d24_8) (by decide) (by decide) rfl
theorem rm74 (l : Launch) {Z a0} (hw : HW Z a0) (gF : Value) (a1 : Addr) (z0 : ClassId) (x1 x2 : Int32) (h0 : Heap) (O0 : Old Z Z.heap.size h0) (z1 : Arv Z h0 a1 z0 .byte 4 [(.int (bH x1)), (.int (bL x1)), (.int (bH x2)), (.int (bL x2))] iZ) (SgF : Sta Z Z.heap s2 s3 s4 gF) (NgF : gF.isRef = true) (z2 : Sta Z Z.heap s1 s5 "Z" (.int 1)) (z3 : Sta Z Z.heap s1 s6 "I" iZ) (z4 : Sta Z Z.heap s1 s7 "I" (.int 8)) (hu3 : own_c x2) :
    CtrN l Z mn23 jdk_52_method_83_code 2 (some .char) [] (⟨3, 0, 0, 40⟩ : Room) #[(.ref a1), (.int 1)] h0 [] (fun v h => v = some (.int x2)) := by
  refine CtrN.intro (L0 := #[vr a1, vi 1]) (plainFor_of_name pn3) O0 (own_entry rfl) ?_
  intro p e s m below meth c T0 hy hml hret hlk hnm W0
  refine o_iloadN W0 1 (hb hy d23_0) rfl rfl <| o_aloadN W0 2 (hb hy d23_1) rfl rfl rfl ?_
  refine o_staticC W0 (w106 hw) (w107 hw) (w73 hw) (w108 hw) (by decide) (rm73 l hw gF a1 z0 x1 x2 h0 W0.old z1 SgF NgF) 0 0 0 (by decide) (by rw [hml]; rfl) (lenOf pd16 rfl) [] rfl rfl 5 (hb hy d23_2) rfl rfl rfl all0 tri ?_
  intro v1 T1 h1 lo1 W1 K1 q1
  obtain rfl := q1.2.2
  show Gl _ _ _ _ _ _ _ _ []
  refine o_aloadN W1 6 (hb hy d23_5) rfl rfl rfl <| o_iloadN W1 7 (hb hy d23_6) rfl rfl ?_
  have c2 := (z1.keep K1 nin0)
  refine o_staticC W1 (w100 hw) (w101 hw) (w73 hw) (w102 hw) (by decide) (rm62 l hw a1 z0 x1 x2 h1 W1.old z2 c2 z3 z4 hu3) 0 0 0 (by decide) (by rw [hml]; rfl) (lenOf pd11 rfl) [] rfl rfl 10 (hb hy d23_7) rfl rfl rfl all0 tri ?_
  intro v4 T4 h4 lo4 W4 K4 q4
  obtain rfl := q4.2.2
  show Gl _ _ _ _ _ _ _ _ [(.int x2)]
  exact o_retN W4 hlk (t := .char) hret (by simp) (z' := x2) (own_i2cc hu3) (hb hy d23_10) (by decide) (by decide) rfl
theorem rm75 (l : Launch) {Z a0} (hw : HW Z a0) (gCS : Int32) (gF : Value) (a1 a2 : Addr) (z0 : ClassId) (x1 x2 : Int32) (h0 : Heap) (O0 : Old Z Z.heap.size h0) (z1 : Exa Z h0 a1 s0) (SgCS : Sta Z Z.heap s0 s8 "Z" (.int gCS)) (NgCS : ¬ (gCS = (0 : Int32))) (z2 : Fld Z h0 a1 s0 "coder" "B" (.int 1)) (z3 : Fld Z h0 a1 s0 "value" "[B" (.ref a2)) (z4 : Arv Z h0 a2 z0 .byte 4 [(.int (bH x1)), (.int (bL x1)), (.int (bH x2)), (.int (bL x2))] iZ) (SgF : Sta Z Z.heap s2 s3 s4 gF) (NgF : gF.isRef = true) (z5 : Sta Z Z.heap s1 s5 "Z" (.int 1)) (z6 : Sta Z Z.heap s1 s6 "I" iZ) (z7 : Sta Z Z.heap s1 s7 "I" (.int 8)) (hu5 : own_c x2) :
    CtrN l Z mn2 jdk_42_method_56_code 2 (some .char) [] (⟨5, 0, 0, 70⟩ : Room) #[(.ref a1), (.int 1)] h0 [] (fun v h => v = some (.int x2)) := by
  refine CtrN.intro (L0 := #[vr a1, vi 1]) (plainFor_of_name pn1) O0 (own_entry rfl) ?_
  intro p e s m below meth c T0 hy hml hret hlk hnm W0
  refine o_aloadN W0 1 (hb hy d9_0) rfl rfl rfl ?_
  refine o_virtualC W0 (w54 hw) (w55 hw) (o_nf W0 rfl (w57 hw)) (w57 hw) (w56 hw) (by decide) z1 (w58 hw) (w8 hw) (rm32 l hw gCS a1 h0 W0.old SgCS NgCS z2) 0 0 0 (by decide) (by rw [hml]; rfl) (lenOf pd3 rfl) [] rfl rfl 4 (hb hy d9_1) rfl rfl rfl all0 tri ?_
  intro v1 T1 h1 lo1 W1 K1 q1
  obtain rfl := q1.2.2
  show Gl _ _ _ _ _ _ _ _ [iZ]
  refine o_ifY W1 16 (hb hy d9_4) (XT.i0_eq_t (by decide)) (by decide) rfl <| o_aloadN W1 17 (hb hy d9_16) rfl rfl rfl ?_
  have c2 := (z3.keep K1 nin0)
  refine o_getF W1 (w25 hw) Via.refl c2 20 (hb hy d9_17) rfl ?_
  intro T3 W3
  refine o_iloadN W3 21 (hb hy d9_20) rfl rfl ?_
  have c4 := (z4.keep K1 nin0)
  refine o_staticC W3 (w103 hw) (w104 hw) (w73 hw) (w105 hw) (by decide) (rm74 l hw gF a2 z0 x1 x2 h1 W3.old c4 SgF NgF z5 z6 z7 hu5) 0 0 0 (by decide) (by rw [hml]; rfl) (lenOf pd11 rfl) [] rfl rfl 24 (hb hy d9_21) rfl rfl rfl all0 tri ?_
  intro v6 T6 h6 lo6 W6 K6 q6
  obtain rfl := q6.2.2
  show Gl _ _ _ _ _ _ _ _ [(.int x2)]
  exact o_retN W6 hlk (t := .char) hret (by simp) (z' := x2) (own_i2cc hu5) (hb hy d9_24) (by decide) (by decide) rfl
theorem rm76 (l : Launch) {Z a0} (hw : HW Z a0) (a1 a2 : Addr) (z0 : ClassId) (x1 x2 : Int32) (h0 : Heap) (O0 : Old Z Z.heap.size h0) (z1 : Arv Z h0 a1 z0 .char 2 [(.int x1), (.int x2)] iZ) (hu1 : own_c x1) (hc2 : (255 : Int32) < x1) :
    CtrN l Z mn8 jdk_52_method_21_code 7 (some .int) [] (⟨0, 0, 0, 0⟩ : Room) #[(.ref a1), iZ, (.ref a2), iZ, (.int 2)] h0 [] (fun v h => v = some iZ) := by
  refine CtrN.intro (L0 := #[vr a1, vi 0, vr a2, vi 0, vi 2, un, un]) (plainFor_of_name pn3) O0 (own_entry rfl) ?_
  intro p e s m below meth c T0 hy hml hret hlk hnm W0
  refine o_iconst W0 (v := 0) 1 (hb hy d15_0) rfl rfl <| o_istore W0 (L' := #[vr a1, vi 0, vr a2, vi 0, vi 2, vi 0, un]) 3 (hb hy d15_1) rfl rfl <| o_iload W0 5 (hb hy d15_3) rfl rfl <| o_iload W0 7 (hb hy d15_5) rfl rfl <| o_icmpN W0 10 (hb hy d15_7) (XT.ii_ge_f (by decide)) rfl <| o_aloadN W0 11 (hb hy d15_10) rfl rfl rfl ?_
  refine o_iloadN W0 12 (hb hy d15_11) rfl rfl <| o_caload W0 z1 (x := x1) (i := 0) (by decide) (by decide) (by decide) rfl 13 (hb hy d15_12) rfl <| o_istore W0 (L' := #[vr a1, vi 0, vr a2, vi 0, vi 2, vi 0, vi x1]) 15 (hb hy d15_13) rfl rfl <| o_iload W0 17 (hb hy d15_15) rfl rfl <| o_sipush W0 (v := 255) 20 (hb hy d15_17) (by decide) rfl <| o_icmpN W0 23 (hb hy d15_20) (XT.ii_le_f hc2) rfl ?_
  refine o_iload W0 25 (hb hy d15_23) rfl rfl ?_
  exact o_retI W0 hlk hret (hb hy d15_25) (by decide) (by decide) rfl
theorem rm77 (l : Launch) {Z a0} (hw : HW Z a0) (a1 : Addr) (z0 : ClassId) (x1 x2 : Int32) (h0 : Heap) (O0 : Old Z Z.heap.size h0) (z1 : Arv Z h0 a1 z0 .char 2 [(.int x1), (.int x2)] iZ) (hu3 : own_c x1) (hc4 : (255 : Int32) < x1) (z2 : Sta Z Z.heap s1 s5 "Z" (.int 1)) (z3 : Sta Z Z.heap s1 s6 "I" iZ) (z4 : Sta Z Z.heap s1 s7 "I" (.int 8)) :
    CtrN l Z mn9 jdk_52_method_16_code 6 (some (.array .byte)) [] (⟨3, 2, 6, 40⟩ : Room) #[(.ref a1), iZ, (.int 2)] h0 [] (fun v h => ∃ r1 : Addr, ∃ r2 : ClassId, h0.size ≤ r1 ∧ Arv Z h r1 r2 .byte 4 [(.int (bH x1)), (.int (bL x1)), (.int (bH x2)), (.int (bL x2))] iZ ∧ v = some (.ref r1)) := by
  refine CtrN.intro (L0 := #[vr a1, vi 0, vi 2, un, un, un]) (plainFor_of_name pn3) O0 (own_entry rfl) ?_
  intro p e s m below meth c T0 hy hml hret hlk hnm W0
  refine o_iloadN W0 1 (hb hy d14_0) rfl rfl ?_
  refine o_newP W0 (aty := .byte) (w20 hw) tri (by decide) (cap := 2) (by decide) (by decide) 3 (hb hy d14_1) rfl (cells' := 1) (slots' := 2) rfl rfl (by decide) (by decide) (vs := [iZ, iZ]) (dv := iZ) rfl rfl ?_
  intro b1 T1 h1 k1 W1 E1 ge1 gz1 gb1 V1
  refine o_astoreN W1 (L' := #[vr a1, vi 0, vi 2, vr b1, un, un]) 4 (hb hy d14_3) rfl rfl rfl <| o_aloadN W1 5 (hb hy d14_4) rfl rfl rfl <| o_iloadN W1 6 (hb hy d14_5) rfl rfl <| o_aloadN W1 7 (hb hy d14_6) rfl rfl rfl <| o_iconst W1 (v := 0) 8 (hb hy d14_7) rfl rfl <| o_iloadN W1 9 (hb hy d14_8) rfl rfl ?_
  have c2 := (z1.ext E1)
  refine o_staticC W1 (w75 hw) (w76 hw) (w73 hw) (w77 hw) (by decide) (rm76 l hw a1 b1 z0 x1 x2 h1 W1.old c2 hu3 hc4) 0 1 2 (by decide) (by rw [hml]; rfl) (lenOf pd5 rfl) [] rfl rfl 12 (hb hy d14_9) rfl rfl rfl all0 tri ?_
  intro v5 T5 h5 lo5 W5 K5 q5
  obtain rfl := q5.2.2
  show Gl _ _ _ _ _ _ _ _ [iZ]
  refine o_istore W5 (L' := #[vr a1, vi 0, vi 2, vr b1, vi 0, un]) 14 (hb hy d14_12) rfl rfl <| o_iload W5 16 (hb hy d14_14) rfl rfl <| o_iloadN W5 17 (hb hy d14_16) rfl rfl <| o_icmpN W5 20 (hb hy d14_17) (XT.ii_eq_f (by decide)) rfl <| o_aloadN W5 21 (hb hy d14_20) rfl rfl rfl <| o_iloadN W5 22 (hb hy d14_21) rfl rfl ?_
  refine o_iloadN W5 23 (hb hy d14_22) rfl rfl ?_
  have c6 := (c2.keep K5 nin0)
  refine o_staticC W5 (w84 hw) (w85 hw) (w73 hw) (w86 hw) (by decide) (rm61 l hw a1 z0 x1 x2 h5 W5.old c6 z2 z3 z4) 0 2 6 (by decide) (by rw [hml]; rfl) (lenOf pd6 rfl) [] rfl rfl 26 (hb hy d14_23) rfl rfl rfl all0 tri ?_
  intro v7 T7 h7 lo7 W7 K7 q7
  obtain ⟨r1_7, r2_7, P7_0, P7_1, rfl⟩ := q7.2.2
  show Gl _ _ _ _ _ _ _ _ [(.ref r1_7)]
  refine o_astore W7 (L' := #[vr a1, vi 0, vi 2, vr b1, vi 0, vr r1_7]) 28 (hb hy d14_26) rfl rfl rfl <| o_aload W7 30 (hb hy d14_28) rfl rfl rfl <| o_iload W7 32 (hb hy d14_30) rfl rfl ?_
  refine o_staticC W7 (w100 hw) (w101 hw) (w73 hw) (w102 hw) (by decide) (rm70 l hw r1_7 r2_7 x1 x2 h7 W7.old z2 P7_1 z3 z4 hu3) 0 2 6 (by decide) (by rw [hml]; rfl) (lenOf pd11 rfl) [] rfl rfl 35 (hb hy d14_32) rfl rfl rfl all0 tri ?_
  intro v8 T8 h8 lo8 W8 K8 q8
  obtain rfl := q8.2.2
  show Gl _ _ _ _ _ _ _ _ [(.int x1)]
  refine o_sipush W8 (v := 255) 38 (hb hy d14_35) (by decide) rfl <| o_icmpY W8 54 (hb hy d14_38) (XT.ii_gt_t hc4) (by decide) rfl <| o_aload W8 56 (hb hy d14_54) rfl rfl rfl ?_
  have c9 := (P7_1.keep K8 nin0)
  exact o_retA W8 hlk (v := (.ref r1_7)) hret rfl rfl (hb hy d14_56) (by decide) (by decide) ⟨r1_7, r2_7, (Nat.le_trans W5.keep.1 P7_0), c9, rfl⟩
theorem rm78 (l : Launch) {Z a0} (hw : HW Z a0) (gCS : Int32) (a1 a2 : Addr) (z0 : ClassId) (x1 x2 : Int32) (h0 : Heap) (O0 : Old Z Z.heap.size h0) (SgCS : Sta Z Z.heap s0 s8 "Z" (.int gCS)) (NgCS : ¬ (gCS = (0 : Int32))) (z1 : Arv Z h0 a2 z0 .char 2 [(.int x1), (.int x2)] iZ) (hu3 : own_c x1) (hc4 : (255 : Int32) < x1) (z2 : Sta Z Z.heap s1 s5 "Z" (.int 1)) (z3 : Sta Z Z.heap s1 s6 "I" iZ) (z4 : Sta Z Z.heap s1 s7 "I" (.int 8)) (z5 : Exa Z h0 a1 s0) (z6 : Fld Z h0 a1 s0 "coder" "B" iZ) (z7 : Z.heap.size ≤ a1) (z8 : Fld Z h0 a1 s0 "value" "[B" .null) :
    CtrN l Z mn5 jdk_42_method_149_code 6 none [] (⟨4, 2, 6, 57⟩ : Room) #[(.ref a1), (.ref a2), iZ, (.int 2), .null] h0 [a1] (fun v h => ∃ r1 : Addr, ∃ r2 : ClassId, h0.size ≤ r1 ∧ Fld Z h a1 s0 "coder" "B" (.int 1) ∧ Fld Z h a1 s0 "value" "[B" (.ref r1) ∧ Arv Z h r1 r2 .byte 4 [(.int (bH x1)), (.int (bL x1)), (.int (bH x2)), (.int (bL x2))] iZ ∧ v = none) := by
  refine CtrN.intro (L0 := #[vr a1, vr a2, vi 0, vi 2, .val .null, un]) (plainFor_of_name pn1) O0 (own_entry rfl) ?_
  intro p e s m below meth c T0 hy hml hret hlk hnm W0
  refine o_aloadN W0 1 (hb hy d3_0) rfl rfl rfl ?_
  refine o_initO W0 (w16 hw) (w17 hw) (w18 hw) (by rw [hml]; rfl) 4 (hb hy d3_1) rfl (by decide) 0 (by exact Nat.le_of_eq rfl) (by decide) ?_
  intro T1 W1
  refine o_iloadN W1 5 (hb hy d3_4) rfl rfl <| o_ifY W1 27 (hb hy d3_5) (XT.i0_ne_t (by decide)) (by decide) rfl ?_
  refine o_getS W1 (w48 hw) Via.refl (SgCS.ext W1.ox) 30 (hb hy d3_27) rfl ?_
  intro T2 W2
  refine o_ifN W2 33 (hb hy d3_30) (XT.i0_eq_f NgCS) rfl <| o_aloadN W2 34 (hb hy d3_33) rfl rfl rfl <| o_iloadN W2 35 (hb hy d3_34) rfl rfl <| o_iloadN W2 36 (hb hy d3_35) rfl rfl ?_
  refine o_staticC W2 (w71 hw) (w72 hw) (w73 hw) (w74 hw) (by decide) (rm77 l hw a2 z0 x1 x2 h0 W2.old z1 hu3 hc4 z2 z3 z4) 0 2 6 (by decide) (by rw [hml]; rfl) (lenOf pd6 rfl) [] rfl rfl 39 (hb hy d3_36) rfl rfl rfl all0 tri ?_
  intro v5 T5 h5 lo5 W5 K5 q5
  obtain ⟨r1_5, r2_5, P5_0, P5_1, rfl⟩ := q5.2.2
  show Gl _ _ _ _ _ _ _ _ [(.ref r1_5)]
  refine o_astore W5 (L' := #[vr a1, vr a2, vi 0, vi 2, .val .null, vr r1_5]) 41 (hb hy d3_39) rfl rfl rfl <| o_aloadN W5 42 (hb hy d3_41) rfl rfl rfl <| o_aload W5 44 (hb hy d3_42) rfl rfl rfl <| o_iloadN W5 45 (hb hy d3_44) rfl rfl ?_
  refine o_staticC W5 (w78 hw) (w79 hw) (w73 hw) (w80 hw) (by decide) (rm64 l hw r1_5 r2_5 x1 x2 h5 W5.old P5_1) 1 2 6 (by decide) (by rw [hml]; rfl) (lenOf pd7 rfl) [(.ref a1)] rfl rfl 48 (hb hy d3_45) rfl rfl rfl all0 tri ?_
  intro v6 T6 h6 lo6 W6 K6 q6
  obtain rfl := q6.2.2
  show Gl _ _ _ _ _ _ _ _ [(.int 1), (.ref a1)]
  have c7 := ((z5.keep K5).keep K6)
  have c8 := ((z6.keep K5 nin0).keep K6 nin0)
  refine o_putF W6 (w26 hw) Via.refl c8 c7 (Or.inr ⟨(w22 hw), rfl, hnm⟩) (w7 hw) (ty := .byte) (v' := (.int 1)) (by decide) rfl (by decide) z7 m0 tri 51 (hb hy d3_48) rfl ?_
  intro T9 h9 lo9 W9 R9
  have F9 := c8.same R9
  refine o_aloadN W9 52 (hb hy d3_51) rfl rfl rfl <| o_aload W9 54 (hb hy d3_52) rfl rfl rfl ?_
  have c10 := (c7.wr R9)
  have c11 := (((z8.keep K5 nin0).keep K6 nin0).other R9 (Or.inr (slot_ne (Or.inr (w21 hw)) (Or.inr (w22 hw)) (by decide) (t := (.array .byte)) (t' := .byte) (by decide) (by decide))))
  refine o_putF W9 (w25 hw) Via.refl c11 c10 (Or.inr ⟨(w21 hw), rfl, hnm⟩) (w7 hw) (ty := (.array .byte)) (v' := (.ref r1_5)) (by decide) rfl rfl z7 m0 tri 57 (hb hy d3_54) rfl ?_
  intro T12 h12 lo12 W12 R12
  have F12 := c11.same R12
  have c13 := (F9.other R12 (Or.inr (slot_ne (Or.inr (w22 hw)) (Or.inr (w21 hw)) (by decide) (t := .byte) (t' := (.array .byte)) (by decide) (by decide))))
  have c14 := (c10.wr R12)
  have c15 := (((P5_1.keep K6 nin0).other R9 (own_ne' z5.lt P5_0)).other R12 (own_ne' z5.lt P5_0))
  exact o_ret0 W12 hlk hret (hb hy d3_57) (by decide) (by decide) ⟨r1_5, r2_5, (Nat.le_trans W2.keep.1 P5_0), c13, F12, c15, rfl⟩
theorem rm79 (l : Launch) {Z a0} (hw : HW Z a0) (gCS : Int32) (gF : Value) (a1 a2 : Addr) (z0 : ClassId) (x1 x2 : Int32) (h0 : Heap) (O0 : Old Z Z.heap.size h0) (z1 : Arv Z h0 a2 z0 .char 2 [(.int x1), (.int x2)] iZ) (SgCS : Sta Z Z.heap s0 s8 "Z" (.int gCS)) (NgCS : ¬ (gCS = (0 : Int32))) (hu1 : own_c x1) (hu3 : own_c x2) (z2 : Exa Z h0 a1 s0) (z3 : Fld Z h0 a1 s0 "coder" "B" iZ) (z4 : Fld Z h0 a1 s0 "value" "[B" .null) (z5 : Z.heap.size ≤ a1) (SgF : Sta Z Z.heap s2 s3 s4 gF) (NgF : gF.isRef = true) (z6 : Sta Z Z.heap s1 s5 "Z" (.int 1)) (z7 : Sta Z Z.heap s1 s6 "I" iZ) (z8 : Sta Z Z.heap s1 s7 "I" (.int 8)) :
    CtrN l Z mn6 jdk_42_method_3_code 2 none [] (⟨5, 2, 6, 74⟩ : Room) #[(.ref a1), (.ref a2)] h0 [a1] (fun v h => Sv l Z h a1 (2 : Int32) [((0 : Int32), x1), ((1 : Int32), x2)] ∧ v = none) := by
  refine CtrN.intro (L0 := #[vr a1, vr a2]) (plainFor_of_name pn1) O0 (own_entry rfl) ?_
  intro p e s m below meth c T0 hy hml hret hlk hnm W0
  refine o_aloadN W0 1 (hb hy d2_0) rfl rfl rfl <| o_aloadN W0 2 (hb hy d2_1) rfl rfl rfl <| o_iconst W0 (v := 0) 3 (hb hy d2_2) rfl rfl <| o_aloadN W0 4 (hb hy d2_3) rfl rfl rfl <| o_len W0 z1 5 (hb hy d2_4) rfl ?_
  refine o_aconstNull W0 6 (hb hy d2_5) rfl ?_
  rcases (Classical.em ((255 : Int32) < x1)).symm with hq2 | hq2
  · rcases (Classical.em ((255 : Int32) < x2)).symm with hq4 | hq4
    · refine o_specialC W0 rfl (w12 hw) (w13 hw) (w15 hw) (by decide) (w8 hw) (rm43 l hw gCS a1 a2 z0 x1 x2 h0 W0.old SgCS NgCS z1 hu1 hq2 hu3 hq4 z2 z3 z5 z4) 0 1 2 (by decide) (by rw [hml]; rfl) (lenOf pd1 rfl) [] rfl rfl 9 (hb hy d2_6) rfl rfl rfl (allS ⟨z5, m0⟩ all0) tri ?_
      intro v5 T5 h5 lo5 W5 K5 q5
      obtain ⟨r1_5, r2_5, P5_0, P5_1, P5_2, P5_3, rfl⟩ := q5.2.2
      show Gl _ _ _ _ _ _ _ _ []
      have sv6 : Sv l Z h5 a1 (2 : Int32) [((0 : Int32), x1), ((1 : Int32), x2)] := by
        intro h' O' K'
        have c7 := (P5_2.keep K' nin0)
        have c8 := (P5_3.keep K' nin0)
        have c9 := (P5_1.keep K' nin0)
        have c10 := ((z2.keep K5).keep K')
        exact ⟨(rm44 l hw a1 r1_5 r2_5 x1 x2 h' O' c7 c8), (rm45 l hw gCS a1 r1_5 r2_5 x1 x2 h' O' c7 c8 c10 SgCS NgCS c9), (al1 (rm50 l hw gCS gF a1 r1_5 r2_5 x1 x2 h' O' c10 SgCS NgCS c9 c7 c8 SgF NgF hu1 hq2) (al1 (rm55 l hw gCS gF a1 r1_5 r2_5 x1 x2 h' O' c10 SgCS NgCS c9 c7 c8 SgF NgF hu3 hq4) al0))⟩
      exact o_ret0 W5 hlk hret (hb hy d2_9) (by decide) (by decide) ⟨sv6, rfl⟩
    · refine o_specialC W0 rfl (w12 hw) (w13 hw) (w15 hw) (by decide) (w8 hw) (rm65 l hw gCS a1 a2 z0 x1 x2 h0 W0.old SgCS NgCS z1 hu1 hq2 hu3 hq4 z6 z7 z8 z2 z3 z5 z4) 0 2 6 (by decide) (by rw [hml]; rfl) (lenOf pd1 rfl) [] rfl rfl 9 (hb hy d2_6) rfl rfl rfl (allS ⟨z5, m0⟩ all0) tri ?_
      intro v11 T11 h11 lo11 W11 K11 q11
      obtain ⟨r1_11, r2_11, P11_0, P11_1, P11_2, P11_3, rfl⟩ := q11.2.2
      show Gl _ _ _ _ _ _ _ _ []
      have sv12 : Sv l Z h11 a1 (2 : Int32) [((0 : Int32), x1), ((1 : Int32), x2)] := by
        intro h' O' K'
        have c13 := (P11_2.keep K' nin0)
        have c14 := (P11_3.keep K' nin0)
        have c15 := (P11_1.keep K' nin0)
        have c16 := ((z2.keep K11).keep K')
        exact ⟨(rm66 l hw a1 r1_11 r2_11 x1 x2 h' O' c13 c14), (rm67 l hw gCS a1 r1_11 r2_11 x1 x2 h' O' c13 c14 c16 SgCS NgCS c15), (al1 (rm72 l hw gCS gF a1 r1_11 r2_11 x1 x2 h' O' c16 SgCS NgCS c15 c13 c14 SgF NgF z6 z7 z8 hu1) (al1 (rm75 l hw gCS gF a1 r1_11 r2_11 x1 x2 h' O' c16 SgCS NgCS c15 c13 c14 SgF NgF z6 z7 z8 hu3) al0))⟩
      exact o_ret0 W11 hlk hret (hb hy d2_9) (by decide) (by decide) ⟨sv12, rfl⟩
  · refine o_specialC W0 rfl (w12 hw) (w13 hw) (w15 hw) (by decide) (w8 hw) (rm78 l hw gCS a1 a2 z0 x1 x2 h0 W0.old SgCS NgCS z1 hu1 hq2 z6 z7 z8 z2 z3 z5 z4) 0 2 6 (by decide) (by rw [hml]; rfl) (lenOf pd1 rfl) [] rfl rfl 9 (hb hy d2_6) rfl rfl rfl (allS ⟨z5, m0⟩ all0) tri ?_
    intro v17 T17 h17 lo17 W17 K17 q17
    obtain ⟨r1_17, r2_17, P17_0, P17_1, P17_2, P17_3, rfl⟩ := q17.2.2
    show Gl _ _ _ _ _ _ _ _ []
    have sv18 : Sv l Z h17 a1 (2 : Int32) [((0 : Int32), x1), ((1 : Int32), x2)] := by
      intro h' O' K'
      have c19 := (P17_2.keep K' nin0)
      have c20 := (P17_3.keep K' nin0)
      have c21 := (P17_1.keep K' nin0)
      have c22 := ((z2.keep K17).keep K')
      exact ⟨(rm66 l hw a1 r1_17 r2_17 x1 x2 h' O' c19 c20), (rm67 l hw gCS a1 r1_17 r2_17 x1 x2 h' O' c19 c20 c22 SgCS NgCS c21), (al1 (rm72 l hw gCS gF a1 r1_17 r2_17 x1 x2 h' O' c22 SgCS NgCS c21 c19 c20 SgF NgF z6 z7 z8 hu1) (al1 (rm75 l hw gCS gF a1 r1_17 r2_17 x1 x2 h' O' c22 SgCS NgCS c21 c19 c20 SgF NgF z6 z7 z8 hu3) al0))⟩
    exact o_ret0 W17 hlk hret (hb hy d2_9) (by decide) (by decide) ⟨sv18, rfl⟩
theorem rm80 (l : Launch) {Z a0} (hw : HW Z a0) (a1 : Addr) (x1 x2 : Int32) (h0 : Heap) (O0 : Old Z Z.heap.size h0) (z0 : Exa Z h0 a1 s0) (z1 : Sv l Z h0 a1 (2 : Int32) [((0 : Int32), x1), ((1 : Int32), x2)]) (hc11 : (own_okc x1) = (0 : Int32)) :
    CtrN l Z mn7 prog_6_method_2_code 4 (some .boolean) [] (⟨6, 0, 0, 83⟩ : Room) #[(.ref a1)] h0 [] (fun v h => v = some iZ) := by
  refine CtrN.intro (L0 := #[vr a1, un, un, un]) (plainFor_of_name pn2) O0 (own_entry rfl) ?_
  intro p e s m below meth c T0 hy hml hret hlk hnm W0
  refine o_aloadN W0 1 (hb hy d5_0) rfl rfl rfl ?_
  refine o_ifnullN W0 4 (hb hy d5_1) rfl ?_
  refine o_aloadN W0 5 (hb hy d5_4) rfl rfl rfl ?_
  refine o_virtualC W0 (w31 hw) (w32 hw) (o_nf W0 rfl (w34 hw)) (w34 hw) (w33 hw) (by decide) z0 (w35 hw) (w8 hw) (z1 _ W0.old (Keep.refl _ _)).1 0 0 0 (by decide) (by rw [hml]; rfl) (lenOf pd3 rfl) [] rfl rfl 8 (hb hy d5_5) rfl rfl rfl all0 tri ?_
  intro v1 T1 h1 lo1 W1 K1 q1
  obtain rfl := q1.2.2
  show Gl _ _ _ _ _ _ _ _ [iZ]
  refine o_ifN W1 11 (hb hy d5_8) (XT.i0_ne_f (by decide)) rfl <| o_aloadN W1 12 (hb hy d5_11) rfl rfl rfl ?_
  have c2 := (z1.keep K1)
  have c3 := (z0.keep K1)
  refine o_virtualC W1 (w38 hw) (w39 hw) (o_nf W1 rfl (w41 hw)) (w41 hw) (w40 hw) (by decide) c3 (w42 hw) (w8 hw) (c2 _ W1.old (Keep.refl _ _)).2.1 0 0 0 (by decide) (by rw [hml]; rfl) (lenOf pd17 rfl) [] rfl rfl 15 (hb hy d5_12) rfl rfl rfl all0 tri ?_
  intro v4 T4 h4 lo4 W4 K4 q4
  obtain rfl := q4.2.2
  show Gl _ _ _ _ _ _ _ _ [(.int 2)]
  refine o_sipush W4 (v := 128) 18 (hb hy d5_15) (by decide) rfl <| o_icmpY W4 23 (hb hy d5_18) (XT.ii_le_t (by decide)) (by decide) rfl <| o_iconst W4 (v := 1) 24 (hb hy d5_23) rfl rfl <| o_istoreN W4 (L' := #[vr a1, vi 1, un, un]) 25 (hb hy d5_24) rfl rfl <| o_iconst W4 (v := 0) 26 (hb hy d5_25) rfl rfl <| o_istoreN W4 (L' := #[vr a1, vi 1, vi 0, un]) 27 (hb hy d5_26) rfl rfl ?_
  refine o_iloadN W4 28 (hb hy d5_27) rfl rfl <| o_aloadN W4 29 (hb hy d5_28) rfl rfl rfl ?_
  have c5 := (c2.keep K4)
  have c6 := (c3.keep K4)
  refine o_virtualC W4 (w38 hw) (w39 hw) (o_nf W4 rfl (w41 hw)) (w41 hw) (w40 hw) (by decide) c6 (w42 hw) (w8 hw) (c5 _ W4.old (Keep.refl _ _)).2.1 1 0 0 (by decide) (by rw [hml]; rfl) (lenOf pd17 rfl) [iZ] rfl rfl 32 (hb hy d5_29) rfl rfl rfl all0 tri ?_
  intro v7 T7 h7 lo7 W7 K7 q7
  obtain rfl := q7.2.2
  show Gl _ _ _ _ _ _ _ _ [(.int 2), iZ]
  refine o_icmpN W7 35 (hb hy d5_32) (XT.ii_ge_f (by decide)) rfl <| o_iloadN W7 36 (hb hy d5_35) rfl rfl <| o_ifN W7 39 (hb hy d5_36) (XT.i0_eq_f (by decide)) rfl <| o_aloadN W7 40 (hb hy d5_39) rfl rfl rfl <| o_iloadN W7 41 (hb hy d5_40) rfl rfl ?_
  have c8 := (c5.keep K7)
  have c9 := (c6.keep K7)
  refine o_virtualC W7 (w49 hw) (w50 hw) (o_nf W7 rfl (w52 hw)) (w52 hw) (w51 hw) (by decide) c9 (w53 hw) (w8 hw) (al_h (c8 _ W7.old (Keep.refl _ _)).2.2) 0 0 0 (by decide) (by rw [hml]; rfl) (lenOf pd18 rfl) [] rfl rfl 44 (hb hy d5_41) rfl rfl rfl all0 tri ?_
  intro v10 T10 h10 lo10 W10 K10 q10
  obtain rfl := q10.2.2
  show Gl _ _ _ _ _ _ _ _ [(.int x1)]
  refine o_istoreN W10 (L' := #[vr a1, vi 1, vi 0, vi x1]) 45 (hb hy d5_44) rfl rfl ?_
  refine own_tst W10 hy ?_
  rw [hc11]
  refine o_istoreN W10 (L' := #[vr a1, vi 0, vi 0, vi x1]) 105 (hb hy d5_104) rfl rfl <| o_iinc W10 (v := 1) (L' := #[vr a1, vi 0, vi 1, vi x1]) 108 (hb hy d5_105) rfl (by decide) rfl rfl <| o_goto W10 27 (hb hy d5_108) (by decide) rfl <| o_iloadN W10 28 (hb hy d5_27) rfl rfl <| o_aloadN W10 29 (hb hy d5_28) rfl rfl rfl ?_
  have c12 := (c8.keep K10)
  have c13 := (c9.keep K10)
  refine o_virtualC W10 (w38 hw) (w39 hw) (o_nf W10 rfl (w41 hw)) (w41 hw) (w40 hw) (by decide) c13 (w42 hw) (w8 hw) (c12 _ W10.old (Keep.refl _ _)).2.1 1 0 0 (by decide) (by rw [hml]; rfl) (lenOf pd17 rfl) [(.int 1)] rfl rfl 32 (hb hy d5_29) rfl rfl rfl all0 tri ?_
  intro v14 T14 h14 lo14 W14 K14 q14
  obtain rfl := q14.2.2
  show Gl _ _ _ _ _ _ _ _ [(.int 2), (.int 1)]
  refine o_icmpN W14 35 (hb hy d5_32) (XT.ii_ge_f (by decide)) rfl <| o_iloadN W14 36 (hb hy d5_35) rfl rfl <| o_ifY W14 111 (hb hy d5_36) (XT.i0_eq_t (by decide)) (by decide) rfl <| o_iloadN W14 112 (hb hy d5_111) rfl rfl ?_
  exact o_retN W14 hlk (t := .boolean) hret (by simp) (z' := (0 : Int32)) (by decide) (hb hy d5_112) (by decide) (by decide) rfl
theorem rm81 (l : Launch) {Z a0} (hw : HW Z a0) (a1 : Addr) (x1 x2 : Int32) (h0 : Heap) (O0 : Old Z Z.heap.size h0) (z0 : Exa Z h0 a1 s0) (z1 : Sv l Z h0 a1 (2 : Int32) [((0 : Int32), x1), ((1 : Int32), x2)]) (hc11 : ¬ ((own_okc x1) = (0 : Int32))) (hc18 : (own_okc x2) = (0 : Int32)) :
    CtrN l Z mn7 prog_6_method_2_code 4 (some .boolean) [] (⟨6, 0, 0, 83⟩ : Room) #[(.ref a1)] h0 [] (fun v h => v = some iZ) := by
  refine CtrN.intro (L0 := #[vr a1, un, un, un]) (plainFor_of_name pn2) O0 (own_entry rfl) ?_
  intro p e s m below meth c T0 hy hml hret hlk hnm W0
  refine o_aloadN W0 1 (hb hy d5_0) rfl rfl rfl ?_
  refine o_ifnullN W0 4 (hb hy d5_1) rfl ?_
  refine o_aloadN W0 5 (hb hy d5_4) rfl rfl rfl ?_
  refine o_virtualC W0 (w31 hw) (w32 hw) (o_nf W0 rfl (w34 hw)) (w34 hw) (w33 hw) (by decide) z0 (w35 hw) (w8 hw) (z1 _ W0.old (Keep.refl _ _)).1 0 0 0 (by decide) (by rw [hml]; rfl) (lenOf pd3 rfl) [] rfl rfl 8 (hb hy d5_5) rfl rfl rfl all0 tri ?_
  intro v1 T1 h1 lo1 W1 K1 q1
  obtain rfl := q1.2.2
  show Gl _ _ _ _ _ _ _ _ [iZ]
  refine o_ifN W1 11 (hb hy d5_8) (XT.i0_ne_f (by decide)) rfl <| o_aloadN W1 12 (hb hy d5_11) rfl rfl rfl ?_
  have c2 := (z1.keep K1)
  have c3 := (z0.keep K1)
  refine o_virtualC W1 (w38 hw) (w39 hw) (o_nf W1 rfl (w41 hw)) (w41 hw) (w40 hw) (by decide) c3 (w42 hw) (w8 hw) (c2 _ W1.old (Keep.refl _ _)).2.1 0 0 0 (by decide) (by rw [hml]; rfl) (lenOf pd17 rfl) [] rfl rfl 15 (hb hy d5_12) rfl rfl rfl all0 tri ?_
  intro v4 T4 h4 lo4 W4 K4 q4
  obtain rfl := q4.2.2
  show Gl _ _ _ _ _ _ _ _ [(.int 2)]
  refine o_sipush W4 (v := 128) 18 (hb hy d5_15) (by decide) rfl <| o_icmpY W4 23 (hb hy d5_18) (XT.ii_le_t (by decide)) (by decide) rfl <| o_iconst W4 (v := 1) 24 (hb hy d5_23) rfl rfl <| o_istoreN W4 (L' := #[vr a1, vi 1, un, un]) 25 (hb hy d5_24) rfl rfl <| o_iconst W4 (v := 0) 26 (hb hy d5_25) rfl rfl <| o_istoreN W4 (L' := #[vr a1, vi 1, vi 0, un]) 27 (hb hy d5_26) rfl rfl ?_
  refine o_iloadN W4 28 (hb hy d5_27) rfl rfl <| o_aloadN W4 29 (hb hy d5_28) rfl rfl rfl ?_
  have c5 := (c2.keep K4)
  have c6 := (c3.keep K4)
  refine o_virtualC W4 (w38 hw) (w39 hw) (o_nf W4 rfl (w41 hw)) (w41 hw) (w40 hw) (by decide) c6 (w42 hw) (w8 hw) (c5 _ W4.old (Keep.refl _ _)).2.1 1 0 0 (by decide) (by rw [hml]; rfl) (lenOf pd17 rfl) [iZ] rfl rfl 32 (hb hy d5_29) rfl rfl rfl all0 tri ?_
  intro v7 T7 h7 lo7 W7 K7 q7
  obtain rfl := q7.2.2
  show Gl _ _ _ _ _ _ _ _ [(.int 2), iZ]
  refine o_icmpN W7 35 (hb hy d5_32) (XT.ii_ge_f (by decide)) rfl <| o_iloadN W7 36 (hb hy d5_35) rfl rfl <| o_ifN W7 39 (hb hy d5_36) (XT.i0_eq_f (by decide)) rfl <| o_aloadN W7 40 (hb hy d5_39) rfl rfl rfl <| o_iloadN W7 41 (hb hy d5_40) rfl rfl ?_
  have c8 := (c5.keep K7)
  have c9 := (c6.keep K7)
  refine o_virtualC W7 (w49 hw) (w50 hw) (o_nf W7 rfl (w52 hw)) (w52 hw) (w51 hw) (by decide) c9 (w53 hw) (w8 hw) (al_h (c8 _ W7.old (Keep.refl _ _)).2.2) 0 0 0 (by decide) (by rw [hml]; rfl) (lenOf pd18 rfl) [] rfl rfl 44 (hb hy d5_41) rfl rfl rfl all0 tri ?_
  intro v10 T10 h10 lo10 W10 K10 q10
  obtain rfl := q10.2.2
  show Gl _ _ _ _ _ _ _ _ [(.int x1)]
  refine o_istoreN W10 (L' := #[vr a1, vi 1, vi 0, vi x1]) 45 (hb hy d5_44) rfl rfl ?_
  refine own_tst W10 hy ?_
  rw [own_ok1 hc11]
  refine o_istoreN W10 (L' := #[vr a1, vi 1, vi 0, vi x1]) 105 (hb hy d5_104) rfl rfl <| o_iinc W10 (v := 1) (L' := #[vr a1, vi 1, vi 1, vi x1]) 108 (hb hy d5_105) rfl (by decide) rfl rfl <| o_goto W10 27 (hb hy d5_108) (by decide) rfl <| o_iloadN W10 28 (hb hy d5_27) rfl rfl <| o_aloadN W10 29 (hb hy d5_28) rfl rfl rfl ?_
  have c12 := (c8.keep K10)
  have c13 := (c9.keep K10)
  refine o_virtualC W10 (w38 hw) (w39 hw) (o_nf W10 rfl (w41 hw)) (w41 hw) (w40 hw) (by decide) c13 (w42 hw) (w8 hw) (c12 _ W10.old (Keep.refl _ _)).2.1 1 0 0 (by decide) (by rw [hml]; rfl) (lenOf pd17 rfl) [(.int 1)] rfl rfl 32 (hb hy d5_29) rfl rfl rfl all0 tri ?_
  intro v14 T14 h14 lo14 W14 K14 q14
  obtain rfl := q14.2.2
  show Gl _ _ _ _ _ _ _ _ [(.int 2), (.int 1)]
  refine o_icmpN W14 35 (hb hy d5_32) (XT.ii_ge_f (by decide)) rfl <| o_iloadN W14 36 (hb hy d5_35) rfl rfl <| o_ifN W14 39 (hb hy d5_36) (XT.i0_eq_f (by decide)) rfl <| o_aloadN W14 40 (hb hy d5_39) rfl rfl rfl <| o_iloadN W14 41 (hb hy d5_40) rfl rfl ?_
  have c15 := (c12.keep K14)
  have c16 := (c13.keep K14)
  refine o_virtualC W14 (w49 hw) (w50 hw) (o_nf W14 rfl (w52 hw)) (w52 hw) (w51 hw) (by decide) c16 (w53 hw) (w8 hw) (al_h (al_t (c15 _ W14.old (Keep.refl _ _)).2.2)) 0 0 0 (by decide) (by rw [hml]; rfl) (lenOf pd18 rfl) [] rfl rfl 44 (hb hy d5_41) rfl rfl rfl all0 tri ?_
  intro v17 T17 h17 lo17 W17 K17 q17
  obtain rfl := q17.2.2
  show Gl _ _ _ _ _ _ _ _ [(.int x2)]
  refine o_istoreN W17 (L' := #[vr a1, vi 1, vi 1, vi x2]) 45 (hb hy d5_44) rfl rfl ?_
  refine own_tst W17 hy ?_
  rw [hc18]
  refine o_istoreN W17 (L' := #[vr a1, vi 0, vi 1, vi x2]) 105 (hb hy d5_104) rfl rfl <| o_iinc W17 (v := 2) (L' := #[vr a1, vi 0, vi 2, vi x2]) 108 (hb hy d5_105) rfl (by decide) rfl rfl <| o_goto W17 27 (hb hy d5_108) (by decide) rfl <| o_iloadN W17 28 (hb hy d5_27) rfl rfl <| o_aloadN W17 29 (hb hy d5_28) rfl rfl rfl ?_
  have c19 := (c15.keep K17)
  have c20 := (c16.keep K17)
  refine o_virtualC W17 (w38 hw) (w39 hw) (o_nf W17 rfl (w41 hw)) (w41 hw) (w40 hw) (by decide) c20 (w42 hw) (w8 hw) (c19 _ W17.old (Keep.refl _ _)).2.1 1 0 0 (by decide) (by rw [hml]; rfl) (lenOf pd17 rfl) [(.int 2)] rfl rfl 32 (hb hy d5_29) rfl rfl rfl all0 tri ?_
  intro v21 T21 h21 lo21 W21 K21 q21
  obtain rfl := q21.2.2
  show Gl _ _ _ _ _ _ _ _ [(.int 2), (.int 2)]
  refine o_icmpY W21 111 (hb hy d5_32) (XT.ii_ge_t (by decide)) (by decide) rfl <| o_iloadN W21 112 (hb hy d5_111) rfl rfl ?_
  exact o_retN W21 hlk (t := .boolean) hret (by simp) (z' := (0 : Int32)) (by decide) (hb hy d5_112) (by decide) (by decide) rfl
theorem rm82 (l : Launch) {Z a0} (hw : HW Z a0) (a1 : Addr) (x1 x2 : Int32) (h0 : Heap) (O0 : Old Z Z.heap.size h0) (z0 : Exa Z h0 a1 s0) (z1 : Sv l Z h0 a1 (2 : Int32) [((0 : Int32), x1), ((1 : Int32), x2)]) (hc11 : ¬ ((own_okc x1) = (0 : Int32))) (hc18 : ¬ ((own_okc x2) = (0 : Int32))) :
    CtrN l Z mn7 prog_6_method_2_code 4 (some .boolean) [] (⟨6, 0, 0, 83⟩ : Room) #[(.ref a1)] h0 [] (fun v h => v = some (.int 1)) := by
  refine CtrN.intro (L0 := #[vr a1, un, un, un]) (plainFor_of_name pn2) O0 (own_entry rfl) ?_
  intro p e s m below meth c T0 hy hml hret hlk hnm W0
  refine o_aloadN W0 1 (hb hy d5_0) rfl rfl rfl ?_
  refine o_ifnullN W0 4 (hb hy d5_1) rfl ?_
  refine o_aloadN W0 5 (hb hy d5_4) rfl rfl rfl ?_
  refine o_virtualC W0 (w31 hw) (w32 hw) (o_nf W0 rfl (w34 hw)) (w34 hw) (w33 hw) (by decide) z0 (w35 hw) (w8 hw) (z1 _ W0.old (Keep.refl _ _)).1 0 0 0 (by decide) (by rw [hml]; rfl) (lenOf pd3 rfl) [] rfl rfl 8 (hb hy d5_5) rfl rfl rfl all0 tri ?_
  intro v1 T1 h1 lo1 W1 K1 q1
  obtain rfl := q1.2.2
  show Gl _ _ _ _ _ _ _ _ [iZ]
  refine o_ifN W1 11 (hb hy d5_8) (XT.i0_ne_f (by decide)) rfl <| o_aloadN W1 12 (hb hy d5_11) rfl rfl rfl ?_
  have c2 := (z1.keep K1)
  have c3 := (z0.keep K1)
  refine o_virtualC W1 (w38 hw) (w39 hw) (o_nf W1 rfl (w41 hw)) (w41 hw) (w40 hw) (by decide) c3 (w42 hw) (w8 hw) (c2 _ W1.old (Keep.refl _ _)).2.1 0 0 0 (by decide) (by rw [hml]; rfl) (lenOf pd17 rfl) [] rfl rfl 15 (hb hy d5_12) rfl rfl rfl all0 tri ?_
  intro v4 T4 h4 lo4 W4 K4 q4
  obtain rfl := q4.2.2
  show Gl _ _ _ _ _ _ _ _ [(.int 2)]
  refine o_sipush W4 (v := 128) 18 (hb hy d5_15) (by decide) rfl <| o_icmpY W4 23 (hb hy d5_18) (XT.ii_le_t (by decide)) (by decide) rfl <| o_iconst W4 (v := 1) 24 (hb hy d5_23) rfl rfl <| o_istoreN W4 (L' := #[vr a1, vi 1, un, un]) 25 (hb hy d5_24) rfl rfl <| o_iconst W4 (v := 0) 26 (hb hy d5_25) rfl rfl <| o_istoreN W4 (L' := #[vr a1, vi 1, vi 0, un]) 27 (hb hy d5_26) rfl rfl ?_
  refine o_iloadN W4 28 (hb hy d5_27) rfl rfl <| o_aloadN W4 29 (hb hy d5_28) rfl rfl rfl ?_
  have c5 := (c2.keep K4)
  have c6 := (c3.keep K4)
  refine o_virtualC W4 (w38 hw) (w39 hw) (o_nf W4 rfl (w41 hw)) (w41 hw) (w40 hw) (by decide) c6 (w42 hw) (w8 hw) (c5 _ W4.old (Keep.refl _ _)).2.1 1 0 0 (by decide) (by rw [hml]; rfl) (lenOf pd17 rfl) [iZ] rfl rfl 32 (hb hy d5_29) rfl rfl rfl all0 tri ?_
  intro v7 T7 h7 lo7 W7 K7 q7
  obtain rfl := q7.2.2
  show Gl _ _ _ _ _ _ _ _ [(.int 2), iZ]
  refine o_icmpN W7 35 (hb hy d5_32) (XT.ii_ge_f (by decide)) rfl <| o_iloadN W7 36 (hb hy d5_35) rfl rfl <| o_ifN W7 39 (hb hy d5_36) (XT.i0_eq_f (by decide)) rfl <| o_aloadN W7 40 (hb hy d5_39) rfl rfl rfl <| o_iloadN W7 41 (hb hy d5_40) rfl rfl ?_
  have c8 := (c5.keep K7)
  have c9 := (c6.keep K7)
  refine o_virtualC W7 (w49 hw) (w50 hw) (o_nf W7 rfl (w52 hw)) (w52 hw) (w51 hw) (by decide) c9 (w53 hw) (w8 hw) (al_h (c8 _ W7.old (Keep.refl _ _)).2.2) 0 0 0 (by decide) (by rw [hml]; rfl) (lenOf pd18 rfl) [] rfl rfl 44 (hb hy d5_41) rfl rfl rfl all0 tri ?_
  intro v10 T10 h10 lo10 W10 K10 q10
  obtain rfl := q10.2.2
  show Gl _ _ _ _ _ _ _ _ [(.int x1)]
  refine o_istoreN W10 (L' := #[vr a1, vi 1, vi 0, vi x1]) 45 (hb hy d5_44) rfl rfl ?_
  refine own_tst W10 hy ?_
  rw [own_ok1 hc11]
  refine o_istoreN W10 (L' := #[vr a1, vi 1, vi 0, vi x1]) 105 (hb hy d5_104) rfl rfl <| o_iinc W10 (v := 1) (L' := #[vr a1, vi 1, vi 1, vi x1]) 108 (hb hy d5_105) rfl (by decide) rfl rfl <| o_goto W10 27 (hb hy d5_108) (by decide) rfl <| o_iloadN W10 28 (hb hy d5_27) rfl rfl <| o_aloadN W10 29 (hb hy d5_28) rfl rfl rfl ?_
  have c12 := (c8.keep K10)
  have c13 := (c9.keep K10)
  refine o_virtualC W10 (w38 hw) (w39 hw) (o_nf W10 rfl (w41 hw)) (w41 hw) (w40 hw) (by decide) c13 (w42 hw) (w8 hw) (c12 _ W10.old (Keep.refl _ _)).2.1 1 0 0 (by decide) (by rw [hml]; rfl) (lenOf pd17 rfl) [(.int 1)] rfl rfl 32 (hb hy d5_29) rfl rfl rfl all0 tri ?_
  intro v14 T14 h14 lo14 W14 K14 q14
  obtain rfl := q14.2.2
  show Gl _ _ _ _ _ _ _ _ [(.int 2), (.int 1)]
  refine o_icmpN W14 35 (hb hy d5_32) (XT.ii_ge_f (by decide)) rfl <| o_iloadN W14 36 (hb hy d5_35) rfl rfl <| o_ifN W14 39 (hb hy d5_36) (XT.i0_eq_f (by decide)) rfl <| o_aloadN W14 40 (hb hy d5_39) rfl rfl rfl <| o_iloadN W14 41 (hb hy d5_40) rfl rfl ?_
  have c15 := (c12.keep K14)
  have c16 := (c13.keep K14)
  refine o_virtualC W14 (w49 hw) (w50 hw) (o_nf W14 rfl (w52 hw)) (w52 hw) (w51 hw) (by decide) c16 (w53 hw) (w8 hw) (al_h (al_t (c15 _ W14.old (Keep.refl _ _)).2.2)) 0 0 0 (by decide) (by rw [hml]; rfl) (lenOf pd18 rfl) [] rfl rfl 44 (hb hy d5_41) rfl rfl rfl all0 tri ?_
  intro v17 T17 h17 lo17 W17 K17 q17
  obtain rfl := q17.2.2
  show Gl _ _ _ _ _ _ _ _ [(.int x2)]
  refine o_istoreN W17 (L' := #[vr a1, vi 1, vi 1, vi x2]) 45 (hb hy d5_44) rfl rfl ?_
  refine own_tst W17 hy ?_
  rw [own_ok1 hc18]
  refine o_istoreN W17 (L' := #[vr a1, vi 1, vi 1, vi x2]) 105 (hb hy d5_104) rfl rfl <| o_iinc W17 (v := 2) (L' := #[vr a1, vi 1, vi 2, vi x2]) 108 (hb hy d5_105) rfl (by decide) rfl rfl <| o_goto W17 27 (hb hy d5_108) (by decide) rfl <| o_iloadN W17 28 (hb hy d5_27) rfl rfl <| o_aloadN W17 29 (hb hy d5_28) rfl rfl rfl ?_
  have c19 := (c15.keep K17)
  have c20 := (c16.keep K17)
  refine o_virtualC W17 (w38 hw) (w39 hw) (o_nf W17 rfl (w41 hw)) (w41 hw) (w40 hw) (by decide) c20 (w42 hw) (w8 hw) (c19 _ W17.old (Keep.refl _ _)).2.1 1 0 0 (by decide) (by rw [hml]; rfl) (lenOf pd17 rfl) [(.int 2)] rfl rfl 32 (hb hy d5_29) rfl rfl rfl all0 tri ?_
  intro v21 T21 h21 lo21 W21 K21 q21
  obtain rfl := q21.2.2
  show Gl _ _ _ _ _ _ _ _ [(.int 2), (.int 2)]
  refine o_icmpY W21 111 (hb hy d5_32) (XT.ii_ge_t (by decide)) (by decide) rfl <| o_iloadN W21 112 (hb hy d5_111) rfl rfl ?_
  exact o_retN W21 hlk (t := .boolean) hret (by simp) (z' := (1 : Int32)) (by decide) (hb hy d5_112) (by decide) (by decide) rfl
theorem rm83 (l : Launch) {Z a0} (hw : HW Z a0) (a1 a2 : Addr) (z0 : ClassId) (x1 x2 x3 : Int32) (z1 : ClassId) (h0 : Heap) (O0 : Old Z Z.heap.size h0) (z2 : Arv Z h0 a1 z0 .char 3 [(.int x1), (.int x2), (.int x3)] iZ) (hu1 : own_c x1) (hc2 : ¬ ((255 : Int32) < x1)) (z3 : Arv Z h0 a2 z1 .byte 3 [iZ, iZ, iZ] iZ) (z4 : Z.heap.size ≤ a2) (z5 : a1 ≠ a2) (hu5 : own_c x2) (hc6 : ¬ ((255 : Int32) < x2)) (hu9 : own_c x3) (hc10 : ¬ ((255 : Int32) < x3)) :
    CtrN l Z mn8 jdk_52_method_21_code 7 (some .int) [] (⟨0, 0, 0, 0⟩ : Room) #[(.ref a1), iZ, (.ref a2), iZ, (.int 3)] h0 [a2] (fun v h => Arv Z h a2 z1 .byte 3 [(.int (bB x1)), (.int (bB x2)), (.int (bB x3))] iZ ∧ v = some (.int 3)) := by
  refine CtrN.intro (L0 := #[vr a1, vi 0, vr a2, vi 0, vi 3, un, un]) (plainFor_of_name pn3) O0 (own_entry rfl) ?_
  intro p e s m below meth c T0 hy hml hret hlk hnm W0
  refine o_iconst W0 (v := 0) 1 (hb hy d15_0) rfl rfl <| o_istore W0 (L' := #[vr a1, vi 0, vr a2, vi 0, vi 3, vi 0, un]) 3 (hb hy d15_1) rfl rfl <| o_iload W0 5 (hb hy d15_3) rfl rfl <| o_iload W0 7 (hb hy d15_5) rfl rfl <| o_icmpN W0 10 (hb hy d15_7) (XT.ii_ge_f (by decide)) rfl <| o_aloadN W0 11 (hb hy d15_10) rfl rfl rfl ?_
  refine o_iloadN W0 12 (hb hy d15_11) rfl rfl <| o_caload W0 z2 (x := x1) (i := 0) (by decide) (by decide) (by decide) rfl 13 (hb hy d15_12) rfl <| o_istore W0 (L' := #[vr a1, vi 0, vr a2, vi 0, vi 3, vi 0, vi x1]) 15 (hb hy d15_13) rfl rfl <| o_iload W0 17 (hb hy d15_15) rfl rfl <| o_sipush W0 (v := 255) 20 (hb hy d15_17) (by decide) rfl <| o_icmpY W0 26 (hb hy d15_20) (XT.ii_le_t (own_cb hu1 hc2).2) (by decide) rfl ?_
  refine o_aloadN W0 27 (hb hy d15_26) rfl rfl rfl <| o_iloadN W0 28 (hb hy d15_27) rfl rfl <| o_iload W0 30 (hb hy d15_28) rfl rfl <| o_i2b W0 (v := (bB x1)) 31 (hb hy d15_30) rfl rfl ?_
  refine o_stB W0 z3 (i := 0) (x' := (bB x1)) (by decide) (by decide) (by decide) (Nat.lt_of_sub_eq_succ rfl) (own_b8 _) (vs' := [(.int (bB x1)), iZ, iZ]) rfl z4 m0 tri 32 (hb hy d15_31) rfl ?_
  intro T3 h3 lo3 W3 R3 V3
  refine o_iinc W3 (v := 1) (L' := #[vr a1, vi 1, vr a2, vi 0, vi 3, vi 0, vi x1]) 35 (hb hy d15_32) rfl (by decide) rfl rfl <| o_iinc W3 (v := 1) (L' := #[vr a1, vi 1, vr a2, vi 1, vi 3, vi 0, vi x1]) 38 (hb hy d15_35) rfl (by decide) rfl rfl <| o_iinc W3 (v := 1) (L' := #[vr a1, vi 1, vr a2, vi 1, vi 3, vi 1, vi x1]) 41 (hb hy d15_38) rfl (by decide) rfl rfl <| o_goto W3 3 (hb hy d15_41) (by decide) rfl <| o_iload W3 5 (hb hy d15_3) rfl rfl <| o_iload W3 7 (hb hy d15_5) rfl rfl ?_
  refine o_icmpN W3 10 (hb hy d15_7) (XT.ii_ge_f (by decide)) rfl <| o_aloadN W3 11 (hb hy d15_10) rfl rfl rfl <| o_iloadN W3 12 (hb hy d15_11) rfl rfl ?_
  have c4 := (z2.other R3 z5)
  refine o_caload W3 c4 (x := x2) (i := 1) (by decide) (by decide) (by decide) rfl 13 (hb hy d15_12) rfl <| o_istore W3 (L' := #[vr a1, vi 1, vr a2, vi 1, vi 3, vi 1, vi x2]) 15 (hb hy d15_13) rfl rfl <| o_iload W3 17 (hb hy d15_15) rfl rfl <| o_sipush W3 (v := 255) 20 (hb hy d15_17) (by decide) rfl <| o_icmpY W3 26 (hb hy d15_20) (XT.ii_le_t (own_cb hu5 hc6).2) (by decide) rfl <| o_aloadN W3 27 (hb hy d15_26) rfl rfl rfl ?_
  refine o_iloadN W3 28 (hb hy d15_27) rfl rfl <| o_iload W3 30 (hb hy d15_28) rfl rfl <| o_i2b W3 (v := (bB x2)) 31 (hb hy d15_30) rfl rfl ?_
  refine o_stB W3 V3 (i := 1) (x' := (bB x2)) (by decide) (by decide) (by decide) (Nat.lt_of_sub_eq_succ rfl) (own_b8 _) (vs' := [(.int (bB x1)), (.int (bB x2)), iZ]) rfl z4 m0 tri 32 (hb hy d15_31) rfl ?_
  intro T7 h7 lo7 W7 R7 V7
  refine o_iinc W7 (v := 2) (L' := #[vr a1, vi 2, vr a2, vi 1, vi 3, vi 1, vi x2]) 35 (hb hy d15_32) rfl (by decide) rfl rfl <| o_iinc W7 (v := 2) (L' := #[vr a1, vi 2, vr a2, vi 2, vi 3, vi 1, vi x2]) 38 (hb hy d15_35) rfl (by decide) rfl rfl <| o_iinc W7 (v := 2) (L' := #[vr a1, vi 2, vr a2, vi 2, vi 3, vi 2, vi x2]) 41 (hb hy d15_38) rfl (by decide) rfl rfl <| o_goto W7 3 (hb hy d15_41) (by decide) rfl <| o_iload W7 5 (hb hy d15_3) rfl rfl <| o_iload W7 7 (hb hy d15_5) rfl rfl ?_
  refine o_icmpN W7 10 (hb hy d15_7) (XT.ii_ge_f (by decide)) rfl <| o_aloadN W7 11 (hb hy d15_10) rfl rfl rfl <| o_iloadN W7 12 (hb hy d15_11) rfl rfl ?_
  have c8 := (c4.other R7 z5)
  refine o_caload W7 c8 (x := x3) (i := 2) (by decide) (by decide) (by decide) rfl 13 (hb hy d15_12) rfl <| o_istore W7 (L' := #[vr a1, vi 2, vr a2, vi 2, vi 3, vi 2, vi x3]) 15 (hb hy d15_13) rfl rfl <| o_iload W7 17 (hb hy d15_15) rfl rfl <| o_sipush W7 (v := 255) 20 (hb hy d15_17) (by decide) rfl <| o_icmpY W7 26 (hb hy d15_20) (XT.ii_le_t (own_cb hu9 hc10).2) (by decide) rfl <| o_aloadN W7 27 (hb hy d15_26) rfl rfl rfl ?_
  refine o_iloadN W7 28 (hb hy d15_27) rfl rfl <| o_iload W7 30 (hb hy d15_28) rfl rfl <| o_i2b W7 (v := (bB x3)) 31 (hb hy d15_30) rfl rfl ?_
  refine o_stB W7 V7 (i := 2) (x' := (bB x3)) (by decide) (by decide) (by decide) (Nat.lt_of_sub_eq_succ rfl) (own_b8 _) (vs' := [(.int (bB x1)), (.int (bB x2)), (.int (bB x3))]) rfl z4 m0 tri 32 (hb hy d15_31) rfl ?_
  intro T11 h11 lo11 W11 R11 V11
  refine o_iinc W11 (v := 3) (L' := #[vr a1, vi 3, vr a2, vi 2, vi 3, vi 2, vi x3]) 35 (hb hy d15_32) rfl (by decide) rfl rfl <| o_iinc W11 (v := 3) (L' := #[vr a1, vi 3, vr a2, vi 3, vi 3, vi 2, vi x3]) 38 (hb hy d15_35) rfl (by decide) rfl rfl <| o_iinc W11 (v := 3) (L' := #[vr a1, vi 3, vr a2, vi 3, vi 3, vi 3, vi x3]) 41 (hb hy d15_38) rfl (by decide) rfl rfl <| o_goto W11 3 (hb hy d15_41) (by decide) rfl <| o_iload W11 5 (hb hy d15_3) rfl rfl <| o_iload W11 7 (hb hy d15_5) rfl rfl ?_
  refine o_icmpY W11 44 (hb hy d15_7) (XT.ii_ge_t (by decide)) (by decide) rfl <| o_iload W11 46 (hb hy d15_44) rfl rfl ?_
  exact o_retI W11 hlk hret (hb hy d15_46) (by decide) (by decide) ⟨V11, rfl⟩
theorem rm84 (l : Launch) {Z a0} (hw : HW Z a0) (a1 : Addr) (z0 : ClassId) (x1 x2 x3 : Int32) (h0 : Heap) (O0 : Old Z Z.heap.size h0) (z1 : Arv Z h0 a1 z0 .char 3 [(.int x1), (.int x2), (.int x3)] iZ) (hu3 : own_c x1) (hc4 : ¬ ((255 : Int32) < x1)) (hu5 : own_c x2) (hc6 : ¬ ((255 : Int32) < x2)) (hu7 : own_c x3) (hc8 : ¬ ((255 : Int32) < x3)) :
    CtrN l Z mn9 jdk_52_method_16_code 6 (some (.array .byte)) [] (⟨1, 1, 3, 18⟩ : Room) #[(.ref a1), iZ, (.int 3)] h0 [] (fun v h => ∃ r1 : Addr, ∃ r2 : ClassId, h0.size ≤ r1 ∧ Arv Z h r1 r2 .byte 3 [(.int (bB x1)), (.int (bB x2)), (.int (bB x3))] iZ ∧ v = some (.ref r1)) := by
  refine CtrN.intro (L0 := #[vr a1, vi 0, vi 3, un, un, un]) (plainFor_of_name pn3) O0 (own_entry rfl) ?_
  intro p e s m below meth c T0 hy hml hret hlk hnm W0
  refine o_iloadN W0 1 (hb hy d14_0) rfl rfl ?_
  refine o_newP W0 (aty := .byte) (w20 hw) tri (by decide) (cap := 3) (by decide) (by decide) 3 (hb hy d14_1) rfl (cells' := 1) (slots' := 3) rfl rfl (by decide) (by decide) (vs := [iZ, iZ, iZ]) (dv := iZ) rfl rfl ?_
  intro b1 T1 h1 k1 W1 E1 ge1 gz1 gb1 V1
  refine o_astoreN W1 (L' := #[vr a1, vi 0, vi 3, vr b1, un, un]) 4 (hb hy d14_3) rfl rfl rfl <| o_aloadN W1 5 (hb hy d14_4) rfl rfl rfl <| o_iloadN W1 6 (hb hy d14_5) rfl rfl <| o_aloadN W1 7 (hb hy d14_6) rfl rfl rfl <| o_iconst W1 (v := 0) 8 (hb hy d14_7) rfl rfl <| o_iloadN W1 9 (hb hy d14_8) rfl rfl ?_
  have c2 := (z1.ext E1)
  refine o_staticC W1 (w75 hw) (w76 hw) (w73 hw) (w77 hw) (by decide) (rm83 l hw a1 b1 z0 x1 x2 x3 k1 h1 W1.old c2 hu3 hc4 V1 gz1 (own_ne z1.lt ge1) hu5 hc6 hu7 hc8) 0 1 3 (by decide) (by rw [hml]; rfl) (lenOf pd5 rfl) [] rfl rfl 12 (hb hy d14_9) rfl rfl rfl (allS ⟨gz1, (Or.inr gb1)⟩ all0) tri ?_
  intro v9 T9 h9 lo9 W9 K9 q9
  obtain ⟨P9_0, rfl⟩ := q9.2.2
  show Gl _ _ _ _ _ _ _ _ [(.int 3)]
  refine o_istore W9 (L' := #[vr a1, vi 0, vi 3, vr b1, vi 3, un]) 14 (hb hy d14_12) rfl rfl <| o_iload W9 16 (hb hy d14_14) rfl rfl <| o_iloadN W9 17 (hb hy d14_16) rfl rfl <| o_icmpY W9 57 (hb hy d14_17) (XT.ii_eq_t (by decide)) (by decide) rfl <| o_aloadN W9 58 (hb hy d14_57) rfl rfl rfl ?_
  exact o_retA W9 hlk (v := (.ref b1)) hret rfl rfl (hb hy d14_58) (by decide) (by decide) ⟨b1, k1, gb1, P9_0, rfl⟩
theorem rm85 (l : Launch) {Z a0} (hw : HW Z a0) (a1 : Addr) (z0 : ClassId) (x1 x2 x3 : Int32) (h0 : Heap) (O0 : Old Z Z.heap.size h0) (z1 : Arv Z h0 a1 z0 .byte 3 [(.int (bB x1)), (.int (bB x2)), (.int (bB x3))] iZ) :
    CtrN l Z mn10 jdk_52_method_15_code 2 (some .byte) [] (⟨0, 0, 0, 0⟩ : Room) #[(.ref a1), (.int 3)] h0 [] (fun v h => v = some iZ) := by
  refine CtrN.intro (L0 := #[vr a1, vi 3]) (plainFor_of_name pn3) O0 (own_entry rfl) ?_
  intro p e s m below meth c T0 hy hml hret hlk hnm W0
  refine o_iloadN W0 1 (hb hy d16_0) rfl rfl <| o_aloadN W0 2 (hb hy d16_1) rfl rfl rfl <| o_len W0 z1 3 (hb hy d16_2) rfl <| o_isub W0 (v := 0) 4 (hb hy d16_3) (by decide) rfl <| o_bipush W0 (v := 31) 6 (hb hy d16_4) (by decide) rfl <| o_iushr W0 (v := 0) 7 (hb hy d16_6) (by decide) rfl ?_
  refine o_i2b W0 (v := 0) 8 (hb hy d16_7) (by decide) rfl ?_
  exact o_retN W0 hlk (t := .byte) hret (by simp) (z' := (0 : Int32)) (by decide) (hb hy d16_8) (by decide) (by decide) rfl
theorem rm86 (l : Launch) {Z a0} (hw : HW Z a0) (gCS : Int32) (a1 a2 : Addr) (z0 : ClassId) (x1 x2 x3 : Int32) (h0 : Heap) (O0 : Old Z Z.heap.size h0) (SgCS : Sta Z Z.heap s0 s8 "Z" (.int gCS)) (NgCS : ¬ (gCS = (0 : Int32))) (z1 : Arv Z h0 a2 z0 .char 3 [(.int x1), (.int x2), (.int x3)] iZ) (hu3 : own_c x1) (hc4 : ¬ ((255 : Int32) < x1)) (hu5 : own_c x2) (hc6 : ¬ ((255 : Int32) < x2)) (hu7 : own_c x3) (hc8 : ¬ ((255 : Int32) < x3)) (z2 : Exa Z h0 a1 s0) (z3 : Fld Z h0 a1 s0 "coder" "B" iZ) (z4 : Z.heap.size ≤ a1) (z5 : Fld Z h0 a1 s0 "value" "[B" .null) :
    CtrN l Z mn5 jdk_42_method_149_code 6 none [] (⟨2, 1, 3, 35⟩ : Room) #[(.ref a1), (.ref a2), iZ, (.int 3), .null] h0 [a1] (fun v h => ∃ r1 : Addr, ∃ r2 : ClassId, h0.size ≤ r1 ∧ Fld Z h a1 s0 "coder" "B" iZ ∧ Fld Z h a1 s0 "value" "[B" (.ref r1) ∧ Arv Z h r1 r2 .byte 3 [(.int (bB x1)), (.int (bB x2)), (.int (bB x3))] iZ ∧ v = none) := by
  refine CtrN.intro (L0 := #[vr a1, vr a2, vi 0, vi 3, .val .null, un]) (plainFor_of_name pn1) O0 (own_entry rfl) ?_
  intro p e s m below meth c T0 hy hml hret hlk hnm W0
  refine o_aloadN W0 1 (hb hy d3_0) rfl rfl rfl ?_
  refine o_initO W0 (w16 hw) (w17 hw) (w18 hw) (by rw [hml]; rfl) 4 (hb hy d3_1) rfl (by decide) 0 (by exact Nat.le_of_eq rfl) (by decide) ?_
  intro T1 W1
  refine o_iloadN W1 5 (hb hy d3_4) rfl rfl <| o_ifY W1 27 (hb hy d3_5) (XT.i0_ne_t (by decide)) (by decide) rfl ?_
  refine o_getS W1 (w48 hw) Via.refl (SgCS.ext W1.ox) 30 (hb hy d3_27) rfl ?_
  intro T2 W2
  refine o_ifN W2 33 (hb hy d3_30) (XT.i0_eq_f NgCS) rfl <| o_aloadN W2 34 (hb hy d3_33) rfl rfl rfl <| o_iloadN W2 35 (hb hy d3_34) rfl rfl <| o_iloadN W2 36 (hb hy d3_35) rfl rfl ?_
  refine o_staticC W2 (w71 hw) (w72 hw) (w73 hw) (w74 hw) (by decide) (rm84 l hw a2 z0 x1 x2 x3 h0 W2.old z1 hu3 hc4 hu5 hc6 hu7 hc8) 0 1 3 (by decide) (by rw [hml]; rfl) (lenOf pd6 rfl) [] rfl rfl 39 (hb hy d3_36) rfl rfl rfl all0 tri ?_
  intro v9 T9 h9 lo9 W9 K9 q9
  obtain ⟨r1_9, r2_9, P9_0, P9_1, rfl⟩ := q9.2.2
  show Gl _ _ _ _ _ _ _ _ [(.ref r1_9)]
  refine o_astore W9 (L' := #[vr a1, vr a2, vi 0, vi 3, .val .null, vr r1_9]) 41 (hb hy d3_39) rfl rfl rfl <| o_aloadN W9 42 (hb hy d3_41) rfl rfl rfl <| o_aload W9 44 (hb hy d3_42) rfl rfl rfl <| o_iloadN W9 45 (hb hy d3_44) rfl rfl ?_
  refine o_staticC W9 (w78 hw) (w79 hw) (w73 hw) (w80 hw) (by decide) (rm85 l hw r1_9 r2_9 x1 x2 x3 h9 W9.old P9_1) 1 1 3 (by decide) (by rw [hml]; rfl) (lenOf pd7 rfl) [(.ref a1)] rfl rfl 48 (hb hy d3_45) rfl rfl rfl all0 tri ?_
  intro v10 T10 h10 lo10 W10 K10 q10
  obtain rfl := q10.2.2
  show Gl _ _ _ _ _ _ _ _ [iZ, (.ref a1)]
  have c11 := ((z2.keep K9).keep K10)
  have c12 := ((z3.keep K9 nin0).keep K10 nin0)
  refine o_putF W10 (w26 hw) Via.refl c12 c11 (Or.inr ⟨(w22 hw), rfl, hnm⟩) (w7 hw) (ty := .byte) (v' := iZ) (by decide) rfl (by decide) z4 m0 tri 51 (hb hy d3_48) rfl ?_
  intro T13 h13 lo13 W13 R13
  have F13 := c12.same R13
  refine o_aloadN W13 52 (hb hy d3_51) rfl rfl rfl <| o_aload W13 54 (hb hy d3_52) rfl rfl rfl ?_
  have c14 := (c11.wr R13)
  have c15 := (((z5.keep K9 nin0).keep K10 nin0).other R13 (Or.inr (slot_ne (Or.inr (w21 hw)) (Or.inr (w22 hw)) (by decide) (t := (.array .byte)) (t' := .byte) (by decide) (by decide))))
  refine o_putF W13 (w25 hw) Via.refl c15 c14 (Or.inr ⟨(w21 hw), rfl, hnm⟩) (w7 hw) (ty := (.array .byte)) (v' := (.ref r1_9)) (by decide) rfl rfl z4 m0 tri 57 (hb hy d3_54) rfl ?_
  intro T16 h16 lo16 W16 R16
  have F16 := c15.same R16
  have c17 := (F13.other R16 (Or.inr (slot_ne (Or.inr (w22 hw)) (Or.inr (w21 hw)) (by decide) (t := .byte) (t' := (.array .byte)) (by decide) (by decide))))
  have c18 := (c14.wr R16)
  have c19 := (((P9_1.keep K10 nin0).other R13 (own_ne' z2.lt P9_0)).other R16 (own_ne' z2.lt P9_0))
  exact o_ret0 W16 hlk hret (hb hy d3_57) (by decide) (by decide) ⟨r1_9, r2_9, (Nat.le_trans W2.keep.1 P9_0), c17, F16, c19, rfl⟩
theorem rm87 (l : Launch) {Z a0} (hw : HW Z a0) (a1 a2 : Addr) (z0 : ClassId) (x1 x2 x3 : Int32) (h0 : Heap) (O0 : Old Z Z.heap.size h0) (z1 : Fld Z h0 a1 s0 "value" "[B" (.ref a2)) (z2 : Arv Z h0 a2 z0 .byte 3 [(.int (bB x1)), (.int (bB x2)), (.int (bB x3))] iZ) :
    CtrN l Z mn0 jdk_42_method_55_code 1 (some .boolean) [] (⟨0, 0, 0, 0⟩ : Room) #[(.ref a1)] h0 [] (fun v h => v = some iZ) := by
  refine CtrN.intro (L0 := #[vr a1]) (plainFor_of_name pn1) O0 (own_entry rfl) ?_
  intro p e s m below meth c T0 hy hml hret hlk hnm W0
  refine o_aloadN W0 1 (hb hy d6_0) rfl rfl rfl ?_
  refine o_getF W0 (w25 hw) Via.refl z1 4 (hb hy d6_1) rfl ?_
  intro T1 W1
  refine o_len W1 z2 5 (hb hy d6_4) rfl <| o_ifY W1 12 (hb hy d6_5) (XT.i0_ne_t (by decide)) (by decide) rfl <| o_iconst W1 (v := 0) 13 (hb hy d6_12) rfl rfl ?_
  exact o_retN W1 hlk (t := .boolean) hret (by simp) (z' := (0 : Int32)) (by decide) (hb hy d6_13) (by decide) (by decide) rfl
theorem rm88 (l : Launch) {Z a0} (hw : HW Z a0) (gCS : Int32) (a1 a2 : Addr) (z0 : ClassId) (x1 x2 x3 : Int32) (h0 : Heap) (O0 : Old Z Z.heap.size h0) (z1 : Fld Z h0 a1 s0 "value" "[B" (.ref a2)) (z2 : Arv Z h0 a2 z0 .byte 3 [(.int (bB x1)), (.int (bB x2)), (.int (bB x3))] iZ) (z3 : Exa Z h0 a1 s0) (SgCS : Sta Z Z.heap s0 s8 "Z" (.int gCS)) (NgCS : ¬ (gCS = (0 : Int32))) (z4 : Fld Z h0 a1 s0 "coder" "B" iZ) :
    CtrN l Z mn1 jdk_42_method_54_code 1 (some .int) [] (⟨1, 0, 0, 14⟩ : Room) #[(.ref a1)] h0 [] (fun v h => v = some (.int 3)) := by
  refine CtrN.intro (L0 := #[vr a1]) (plainFor_of_name pn1) O0 (own_entry rfl) ?_
  intro p e s m below meth c T0 hy hml hret hlk hnm W0
  refine o_aloadN W0 1 (hb hy d7_0) rfl rfl rfl ?_
  refine o_getF W0 (w25 hw) Via.refl z1 4 (hb hy d7_1) rfl ?_
  intro T1 W1
  refine o_len W1 z2 5 (hb hy d7_4) rfl <| o_aloadN W1 6 (hb hy d7_5) rfl rfl rfl ?_
  refine o_virtualC W1 (w43 hw) (w44 hw) (o_nf W1 rfl (w46 hw)) (w46 hw) (w45 hw) (by decide) z3 (w47 hw) (w8 hw) (rm12 l hw gCS a1 h0 W1.old SgCS NgCS z4) 1 0 0 (by decide) (by rw [hml]; rfl) (lenOf pd8 rfl) [(.int 3)] rfl rfl 9 (hb hy d7_6) rfl rfl rfl all0 tri ?_
  intro v2 T2 h2 lo2 W2 K2 q2
  obtain rfl := q2.2.2
  show Gl _ _ _ _ _ _ _ _ [iZ, (.int 3)]
  refine o_ishr W2 (v := 3) 10 (hb hy d7_9) (by decide) rfl ?_
  exact o_retI W2 hlk hret (hb hy d7_10) (by decide) (by decide) rfl
theorem rm89 (l : Launch) {Z a0} (hw : HW Z a0)  (h0 : Heap) (O0 : Old Z Z.heap.size h0) :
    CtrN l Z mn13 jdk_41_method_11_code 3 (some .int) [] (⟨0, 0, 0, 0⟩ : Room) #[iZ, (.int 3), .null] h0 [] (fun v h => v = some iZ) := by
  refine CtrN.intro (L0 := #[vi 0, vi 3, .val .null]) (plainFor_of_name pn4) O0 (own_entry rfl) ?_
  intro p e s m below meth c T0 hy hml hret hlk hnm W0
  refine o_iloadN W0 1 (hb hy d13_0) rfl rfl <| o_ifN W0 4 (hb hy d13_1) (XT.i0_lt_f (by decide)) rfl <| o_iloadN W0 5 (hb hy d13_4) rfl rfl <| o_iloadN W0 6 (hb hy d13_5) rfl rfl <| o_icmpY W0 16 (hb hy d13_6) (XT.ii_lt_t (by decide)) (by decide) rfl <| o_iloadN W0 17 (hb hy d13_16) rfl rfl ?_
  exact o_retI W0 hlk hret (hb hy d13_17) (by decide) (by decide) rfl
theorem rm90 (l : Launch) {Z a0} (hw : HW Z a0) (a1 : Addr) (h0 : Heap) (O0 : Old Z Z.heap.size h0) :
    CtrN l Z mn13 jdk_41_method_11_code 3 (some .int) [] (⟨0, 0, 0, 0⟩ : Room) #[iZ, (.int 3), (.ref a1)] h0 [] (fun v h => v = some iZ) := by
  refine CtrN.intro (L0 := #[vi 0, vi 3, vr a1]) (plainFor_of_name pn4) O0 (own_entry rfl) ?_
  intro p e s m below meth c T0 hy hml hret hlk hnm W0
  refine o_iloadN W0 1 (hb hy d13_0) rfl rfl <| o_ifN W0 4 (hb hy d13_1) (XT.i0_lt_f (by decide)) rfl <| o_iloadN W0 5 (hb hy d13_4) rfl rfl <| o_iloadN W0 6 (hb hy d13_5) rfl rfl <| o_icmpY W0 16 (hb hy d13_6) (XT.ii_lt_t (by decide)) (by decide) rfl <| o_iloadN W0 17 (hb hy d13_16) rfl rfl ?_
  exact o_retI W0 hlk hret (hb hy d13_17) (by decide) (by decide) rfl
theorem rm91 (l : Launch) {Z a0} (hw : HW Z a0) (gF : Value) (h0 : Heap) (O0 : Old Z Z.heap.size h0) (SgF : Sta Z Z.heap s2 s3 s4 gF) (NgF : gF.isRef = true) :
    CtrN l Z mn14 jdk_42_method_155_code 2 none [] (⟨1, 0, 0, 14⟩ : Room) #[iZ, (.int 3)] h0 [] (fun v h => v = none) := by
  refine CtrN.intro (L0 := #[vi 0, vi 3]) (plainFor_of_name pn1) O0 (own_entry rfl) ?_
  intro p e s m below meth c T0 hy hml hret hlk hnm W0
  refine o_iloadN W0 1 (hb hy d12_0) rfl rfl <| o_iloadN W0 2 (hb hy d12_1) rfl rfl ?_
  rcases ref_cases NgF with rfl | ⟨aF1, rfl⟩
  · refine o_getS W0 (w66 hw) Via.refl (SgF.ext W0.ox) 5 (hb hy d12_2) rfl ?_
    intro T2 W2
    refine o_staticC W2 (w68 hw) (w69 hw) (w67 hw) (w70 hw) (by decide) (rm89 l hw  h0 W2.old ) 0 0 0 (by decide) (by rw [hml]; rfl) (lenOf pd9 rfl) [] rfl rfl 8 (hb hy d12_5) rfl rfl rfl all0 tri ?_
    intro v3 T3 h3 lo3 W3 K3 q3
    obtain rfl := q3.2.2
    show Gl _ _ _ _ _ _ _ _ [iZ]
    refine o_pop W3 9 (hb hy d12_8) rfl rfl ?_
    exact o_ret0 W3 hlk hret (hb hy d12_9) (by decide) (by decide) rfl
  · refine o_getS W0 (w66 hw) Via.refl (SgF.ext W0.ox) 5 (hb hy d12_2) rfl ?_
    intro T4 W4
    refine o_staticC W4 (w68 hw) (w69 hw) (w67 hw) (w70 hw) (by decide) (rm90 l hw aF1 h0 W4.old ) 0 0 0 (by decide) (by rw [hml]; rfl) (lenOf pd9 rfl) [] rfl rfl 8 (hb hy d12_5) rfl rfl rfl all0 tri ?_
    intro v5 T5 h5 lo5 W5 K5 q5
    obtain rfl := q5.2.2
    show Gl _ _ _ _ _ _ _ _ [iZ]
    refine o_pop W5 9 (hb hy d12_8) rfl rfl ?_
    exact o_ret0 W5 hlk hret (hb hy d12_9) (by decide) (by decide) rfl
theorem rm92 (l : Launch) {Z a0} (hw : HW Z a0) (gF : Value) (a1 : Addr) (z0 : ClassId) (x1 x2 x3 : Int32) (h0 : Heap) (O0 : Old Z Z.heap.size h0) (z1 : Arv Z h0 a1 z0 .byte 3 [(.int (bB x1)), (.int (bB x2)), (.int (bB x3))] iZ) (SgF : Sta Z Z.heap s2 s3 s4 gF) (NgF : gF.isRef = true) (hu3 : own_c x1) (hc4 : ¬ ((255 : Int32) < x1)) :
    CtrN l Z mn15 jdk_43_method_2_code 2 (some .char) [] (⟨2, 0, 0, 27⟩ : Room) #[(.ref a1), iZ] h0 [] (fun v h => v = some (.int x1)) := by
  refine CtrN.intro (L0 := #[vr a1, vi 0]) (plainFor_of_name pn5) O0 (own_entry rfl) ?_
  intro p e s m below meth c T0 hy hml hret hlk hnm W0
  refine o_iloadN W0 1 (hb hy d11_0) rfl rfl <| o_aloadN W0 2 (hb hy d11_1) rfl rfl rfl <| o_len W0 z1 3 (hb hy d11_2) rfl ?_
  refine o_staticC W0 (w63 hw) (w64 hw) (w8 hw) (w65 hw) (by decide) (rm91 l hw gF h0 W0.old SgF NgF) 0 0 0 (by decide) (by rw [hml]; rfl) (lenOf pd10 rfl) [] rfl rfl 6 (hb hy d11_3) rfl rfl rfl all0 tri ?_
  intro v1 T1 h1 lo1 W1 K1 q1
  obtain rfl := q1.2.2
  show Gl _ _ _ _ _ _ _ _ []
  refine o_aloadN W1 7 (hb hy d11_6) rfl rfl rfl <| o_iloadN W1 8 (hb hy d11_7) rfl rfl ?_
  have c2 := (z1.keep K1 nin0)
  refine o_baload W1 c2 (x := (bB x1)) (i := 0) (by decide) (by decide) (by decide) rfl 9 (hb hy d11_8) rfl <| o_sipush W1 (v := 255) 12 (hb hy d11_9) (by decide) rfl <| o_iand W1 (v := x1) 13 (hb hy d11_12) (own_lo8 (own_cb hu3 hc4)) rfl <| o_i2c W1 (v := x1) 14 (hb hy d11_13) (own_i2cc hu3) rfl ?_
  exact o_retN W1 hlk (t := .char) hret (by simp) (z' := x1) (own_i2cc hu3) (hb hy d11_14) (by decide) (by decide) rfl
theorem rm93 (l : Launch) {Z a0} (hw : HW Z a0) (gCS : Int32) (gF : Value) (a1 a2 : Addr) (z0 : ClassId) (x1 x2 x3 : Int32) (h0 : Heap) (O0 : Old Z Z.heap.size h0) (z1 : Exa Z h0 a1 s0) (SgCS : Sta Z Z.heap s0 s8 "Z" (.int gCS)) (NgCS : ¬ (gCS = (0 : Int32))) (z2 : Fld Z h0 a1 s0 "coder" "B" iZ) (z3 : Fld Z h0 a1 s0 "value" "[B" (.ref a2)) (z4 : Arv Z h0 a2 z0 .byte 3 [(.int (bB x1)), (.int (bB x2)), (.int (bB x3))] iZ) (SgF : Sta Z Z.heap s2 s3 s4 gF) (NgF : gF.isRef = true) (hu5 : own_c x1) (hc6 : ¬ ((255 : Int32) < x1)) :
    CtrN l Z mn2 jdk_42_method_56_code 2 (some .char) [] (⟨5, 0, 0, 70⟩ : Room) #[(.ref a1), iZ] h0 [] (fun v h => v = some (.int x1)) := by
  refine CtrN.intro (L0 := #[vr a1, vi 0]) (plainFor_of_name pn1) O0 (own_entry rfl) ?_
  intro p e s m below meth c T0 hy hml hret hlk hnm W0
  refine o_aloadN W0 1 (hb hy d9_0) rfl rfl rfl ?_
  refine o_virtualC W0 (w54 hw) (w55 hw) (o_nf W0 rfl (w57 hw)) (w57 hw) (w56 hw) (by decide) z1 (w58 hw) (w8 hw) (rm14 l hw gCS a1 h0 W0.old SgCS NgCS z2) 0 0 0 (by decide) (by rw [hml]; rfl) (lenOf pd3 rfl) [] rfl rfl 4 (hb hy d9_1) rfl rfl rfl all0 tri ?_
  intro v1 T1 h1 lo1 W1 K1 q1
  obtain rfl := q1.2.2
  show Gl _ _ _ _ _ _ _ _ [(.int 1)]
  refine o_ifN W1 7 (hb hy d9_4) (XT.i0_eq_f (by decide)) rfl <| o_aloadN W1 8 (hb hy d9_7) rfl rfl rfl ?_
  have c2 := (z3.keep K1 nin0)
  refine o_getF W1 (w25 hw) Via.refl c2 11 (hb hy d9_8) rfl ?_
  intro T3 W3
  refine o_iloadN W3 12 (hb hy d9_11) rfl rfl ?_
  have c4 := (z4.keep K1 nin0)
  refine o_staticC W3 (w59 hw) (w60 hw) (w61 hw) (w62 hw) (by decide) (rm92 l hw gF a2 z0 x1 x2 x3 h1 W3.old c4 SgF NgF hu5 hc6) 0 0 0 (by decide) (by rw [hml]; rfl) (lenOf pd11 rfl) [] rfl rfl 15 (hb hy d9_12) rfl rfl rfl all0 tri ?_
  intro v7 T7 h7 lo7 W7 K7 q7
  obtain rfl := q7.2.2
  show Gl _ _ _ _ _ _ _ _ [(.int x1)]
  exact o_retN W7 hlk (t := .char) hret (by simp) (z' := x1) (own_i2cc hu5) (hb hy d9_15) (by decide) (by decide) rfl
theorem rm94 (l : Launch) {Z a0} (hw : HW Z a0)  (h0 : Heap) (O0 : Old Z Z.heap.size h0) :
    CtrN l Z mn13 jdk_41_method_11_code 3 (some .int) [] (⟨0, 0, 0, 0⟩ : Room) #[(.int 1), (.int 3), .null] h0 [] (fun v h => v = some (.int 1)) := by
  refine CtrN.intro (L0 := #[vi 1, vi 3, .val .null]) (plainFor_of_name pn4) O0 (own_entry rfl) ?_
  intro p e s m below meth c T0 hy hml hret hlk hnm W0
  refine o_iloadN W0 1 (hb hy d13_0) rfl rfl <| o_ifN W0 4 (hb hy d13_1) (XT.i0_lt_f (by decide)) rfl <| o_iloadN W0 5 (hb hy d13_4) rfl rfl <| o_iloadN W0 6 (hb hy d13_5) rfl rfl <| o_icmpY W0 16 (hb hy d13_6) (XT.ii_lt_t (by decide)) (by decide) rfl <| o_iloadN W0 17 (hb hy d13_16) rfl rfl ?_
  exact o_retI W0 hlk hret (hb hy d13_17) (by decide) (by decide) rfl
theorem rm95 (l : Launch) {Z a0} (hw : HW Z a0) (a1 : Addr) (h0 : Heap) (O0 : Old Z Z.heap.size h0) :
    CtrN l Z mn13 jdk_41_method_11_code 3 (some .int) [] (⟨0, 0, 0, 0⟩ : Room) #[(.int 1), (.int 3), (.ref a1)] h0 [] (fun v h => v = some (.int 1)) := by
  refine CtrN.intro (L0 := #[vi 1, vi 3, vr a1]) (plainFor_of_name pn4) O0 (own_entry rfl) ?_
  intro p e s m below meth c T0 hy hml hret hlk hnm W0
  refine o_iloadN W0 1 (hb hy d13_0) rfl rfl <| o_ifN W0 4 (hb hy d13_1) (XT.i0_lt_f (by decide)) rfl <| o_iloadN W0 5 (hb hy d13_4) rfl rfl <| o_iloadN W0 6 (hb hy d13_5) rfl rfl <| o_icmpY W0 16 (hb hy d13_6) (XT.ii_lt_t (by decide)) (by decide) rfl <| o_iloadN W0 17 (hb hy d13_16) rfl rfl ?_
  exact o_retI W0 hlk hret (hb hy d13_17) (by decide) (by decide) rfl
theorem rm96 (l : Launch) {Z a0} (hw : HW Z a0) (gF : Value) (h0 : Heap) (O0 : Old Z Z.heap.size h0) (SgF : Sta Z Z.heap s2 s3 s4 gF) (NgF : gF.isRef = true) :
    CtrN l Z mn14 jdk_42_method_155_code 2 none [] (⟨1, 0, 0, 14⟩ : Room) #[(.int 1), (.int 3)] h0 [] (fun v h => v = none) := by
  refine CtrN.intro (L0 := #[vi 1, vi 3]) (plainFor_of_name pn1) O0 (own_entry rfl) ?_
  intro p e s m below meth c T0 hy hml hret hlk hnm W0
  refine o_iloadN W0 1 (hb hy d12_0) rfl rfl <| o_iloadN W0 2 (hb hy d12_1) rfl rfl ?_
  rcases ref_cases NgF with rfl | ⟨aF1, rfl⟩
  · refine o_getS W0 (w66 hw) Via.refl (SgF.ext W0.ox) 5 (hb hy d12_2) rfl ?_
    intro T2 W2
    refine o_staticC W2 (w68 hw) (w69 hw) (w67 hw) (w70 hw) (by decide) (rm94 l hw  h0 W2.old ) 0 0 0 (by decide) (by rw [hml]; rfl) (lenOf pd9 rfl) [] rfl rfl 8 (hb hy d12_5) rfl rfl rfl all0 tri ?_
    intro v3 T3 h3 lo3 W3 K3 q3
    obtain rfl := q3.2.2
    show Gl _ _ _ _ _ _ _ _ [(.int 1)]
    refine o_pop W3 9 (hb hy d12_8) rfl rfl ?_
    exact o_ret0 W3 hlk hret (hb hy d12_9) (by decide) (by decide) rfl
  · refine o_getS W0 (w66 hw) Via.refl (SgF.ext W0.ox) 5 (hb hy d12_2) rfl ?_
    intro T4 W4
    refine o_staticC W4 (w68 hw) (w69 hw) (w67 hw) (w70 hw) (by decide) (rm95 l hw aF1 h0 W4.old ) 0 0 0 (by decide) (by rw [hml]; rfl) (lenOf pd9 rfl) [] rfl rfl 8 (hb hy d12_5) rfl rfl rfl all0 tri ?_
    intro v5 T5 h5 lo5 W5 K5 q5
    obtain rfl := q5.2.2
    show Gl _ _ _ _ _ _ _ _ [(.int 1)]
    refine o_pop W5 9 (hb hy d12_8) rfl rfl ?_
    exact o_ret0 W5 hlk hret (hb hy d12_9) (by decide) (by decide) rfl
theorem rm97 (l : Launch) {Z a0} (hw : HW Z a0) (gF : Value) (a1 : Addr) (z0 : ClassId) (x1 x2 x3 : Int32) (h0 : Heap) (O0 : Old Z Z.heap.size h0) (z1 : Arv Z h0 a1 z0 .byte 3 [(.int (bB x1)), (.int (bB x2)), (.int (bB x3))] iZ) (SgF : Sta Z Z.heap s2 s3 s4 gF) (NgF : gF.isRef = true) (hu3 : own_c x2) (hc4 : ¬ ((255 : Int32) < x2)) :
    CtrN l Z mn15 jdk_43_method_2_code 2 (some .char) [] (⟨2, 0, 0, 27⟩ : Room) #[(.ref a1), (.int 1)] h0 [] (fun v h => v = some (.int x2)) := by
  refine CtrN.intro (L0 := #[vr a1, vi 1]) (plainFor_of_name pn5) O0 (own_entry rfl) ?_
  intro p e s m below meth c T0 hy hml hret hlk hnm W0
  refine o_iloadN W0 1 (hb hy d11_0) rfl rfl <| o_aloadN W0 2 (hb hy d11_1) rfl rfl rfl <| o_len W0 z1 3 (hb hy d11_2) rfl ?_
  refine o_staticC W0 (w63 hw) (w64 hw) (w8 hw) (w65 hw) (by decide) (rm96 l hw gF h0 W0.old SgF NgF) 0 0 0 (by decide) (by rw [hml]; rfl) (lenOf pd10 rfl) [] rfl rfl 6 (hb hy d11_3) rfl rfl rfl all0 tri ?_
  intro v1 T1 h1 lo1 W1 K1 q1
  obtain rfl := q1.2.2
  show Gl _ _ _ _ _ _ _ _ []
  refine o_aloadN W1 7 (hb hy d11_6) rfl rfl rfl <| o_iloadN W1 8 (hb hy d11_7) rfl rfl ?_
  have c2 := (z1.keep K1 nin0)
  refine o_baload W1 c2 (x := (bB x2)) (i := 1) (by decide) (by decide) (by decide) rfl 9 (hb hy d11_8) rfl <| o_sipush W1 (v := 255) 12 (hb hy d11_9) (by decide) rfl <| o_iand W1 (v := x2) 13 (hb hy d11_12) (own_lo8 (own_cb hu3 hc4)) rfl <| o_i2c W1 (v := x2) 14 (hb hy d11_13) (own_i2cc hu3) rfl ?_
  exact o_retN W1 hlk (t := .char) hret (by simp) (z' := x2) (own_i2cc hu3) (hb hy d11_14) (by decide) (by decide) rfl
theorem rm98 (l : Launch) {Z a0} (hw : HW Z a0) (gCS : Int32) (gF : Value) (a1 a2 : Addr) (z0 : ClassId) (x1 x2 x3 : Int32) (h0 : Heap) (O0 : Old Z Z.heap.size h0) (z1 : Exa Z h0 a1 s0) (SgCS : Sta Z Z.heap s0 s8 "Z" (.int gCS)) (NgCS : ¬ (gCS = (0 : Int32))) (z2 : Fld Z h0 a1 s0 "coder" "B" iZ) (z3 : Fld Z h0 a1 s0 "value" "[B" (.ref a2)) (z4 : Arv Z h0 a2 z0 .byte 3 [(.int (bB x1)), (.int (bB x2)), (.int (bB x3))] iZ) (SgF : Sta Z Z.heap s2 s3 s4 gF) (NgF : gF.isRef = true) (hu5 : own_c x2) (hc6 : ¬ ((255 : Int32) < x2)) :
    CtrN l Z mn2 jdk_42_method_56_code 2 (some .char) [] (⟨5, 0, 0, 70⟩ : Room) #[(.ref a1), (.int 1)] h0 [] (fun v h => v = some (.int x2)) := by
  refine CtrN.intro (L0 := #[vr a1, vi 1]) (plainFor_of_name pn1) O0 (own_entry rfl) ?_
  intro p e s m below meth c T0 hy hml hret hlk hnm W0
  refine o_aloadN W0 1 (hb hy d9_0) rfl rfl rfl ?_
  refine o_virtualC W0 (w54 hw) (w55 hw) (o_nf W0 rfl (w57 hw)) (w57 hw) (w56 hw) (by decide) z1 (w58 hw) (w8 hw) (rm14 l hw gCS a1 h0 W0.old SgCS NgCS z2) 0 0 0 (by decide) (by rw [hml]; rfl) (lenOf pd3 rfl) [] rfl rfl 4 (hb hy d9_1) rfl rfl rfl all0 tri ?_
  intro v1 T1 h1 lo1 W1 K1 q1
  obtain rfl := q1.2.2
  show Gl _ _ _ _ _ _ _ _ [(.int 1)]
  refine o_ifN W1 7 (hb hy d9_4) (XT.i0_eq_f (by decide)) rfl <| o_aloadN W1 8 (hb hy d9_7) rfl rfl rfl ?_
  have c2 := (z3.keep K1 nin0)
  refine o_getF W1 (w25 hw) Via.refl c2 11 (hb hy d9_8) rfl ?_
  intro T3 W3
  refine o_iloadN W3 12 (hb hy d9_11) rfl rfl ?_
  have c4 := (z4.keep K1 nin0)
  refine o_staticC W3 (w59 hw) (w60 hw) (w61 hw) (w62 hw) (by decide) (rm97 l hw gF a2 z0 x1 x2 x3 h1 W3.old c4 SgF NgF hu5 hc6) 0 0 0 (by decide) (by rw [hml]; rfl) (lenOf pd11 rfl) [] rfl rfl 15 (hb hy d9_12) rfl rfl rfl all0 tri ?_
  intro v7 T7 h7 lo7 W7 K7 q7
  obtain rfl := q7.2.2
  show Gl _ _ _ _ _ _ _ _ [(.int x2)]
  exact o_retN W7 hlk (t := .char) hret (by simp) (z' := x2) (own_i2cc hu5) (hb hy d9_15) (by decide) (by decide) rfl
theorem rm99 (l : Launch) {Z a0} (hw : HW Z a0)  (h0 : Heap) (O0 : Old Z Z.heap.size h0) :
    CtrN l Z mn13 jdk_41_method_11_code 3 (some .int) [] (⟨0, 0, 0, 0⟩ : Room) #[(.int 2), (.int 3), .null] h0 [] (fun v h => v = some (.int 2)) := by
  refine CtrN.intro (L0 := #[vi 2, vi 3, .val .null]) (plainFor_of_name pn4) O0 (own_entry rfl) ?_
  intro p e s m below meth c T0 hy hml hret hlk hnm W0
  refine o_iloadN W0 1 (hb hy d13_0) rfl rfl <| o_ifN W0 4 (hb hy d13_1) (XT.i0_lt_f (by decide)) rfl <| o_iloadN W0 5 (hb hy d13_4) rfl rfl <| o_iloadN W0 6 (hb hy d13_5) rfl rfl <| o_icmpY W0 16 (hb hy d13_6) (XT.ii_lt_t (by decide)) (by decide) rfl <| o_iloadN W0 17 (hb hy d13_16) rfl rfl ?_
  exact o_retI W0 hlk hret (hb hy d13_17) (by decide) (by decide) rfl
theorem rm100 (l : Launch) {Z a0} (hw : HW Z a0) (a1 : Addr) (h0 : Heap) (O0 : Old Z Z.heap.size h0) :
    CtrN l Z mn13 jdk_41_method_11_code 3 (some .int) [] (⟨0, 0, 0, 0⟩ : Room) #[(.int 2), (.int 3), (.ref a1)] h0 [] (fun v h => v = some (.int 2)) := by
  refine CtrN.intro (L0 := #[vi 2, vi 3, vr a1]) (plainFor_of_name pn4) O0 (own_entry rfl) ?_
  intro p e s m below meth c T0 hy hml hret hlk hnm W0
  refine o_iloadN W0 1 (hb hy d13_0) rfl rfl <| o_ifN W0 4 (hb hy d13_1) (XT.i0_lt_f (by decide)) rfl <| o_iloadN W0 5 (hb hy d13_4) rfl rfl <| o_iloadN W0 6 (hb hy d13_5) rfl rfl <| o_icmpY W0 16 (hb hy d13_6) (XT.ii_lt_t (by decide)) (by decide) rfl <| o_iloadN W0 17 (hb hy d13_16) rfl rfl ?_
  exact o_retI W0 hlk hret (hb hy d13_17) (by decide) (by decide) rfl
theorem rm101 (l : Launch) {Z a0} (hw : HW Z a0) (gF : Value) (h0 : Heap) (O0 : Old Z Z.heap.size h0) (SgF : Sta Z Z.heap s2 s3 s4 gF) (NgF : gF.isRef = true) :
    CtrN l Z mn14 jdk_42_method_155_code 2 none [] (⟨1, 0, 0, 14⟩ : Room) #[(.int 2), (.int 3)] h0 [] (fun v h => v = none) := by
  refine CtrN.intro (L0 := #[vi 2, vi 3]) (plainFor_of_name pn1) O0 (own_entry rfl) ?_
  intro p e s m below meth c T0 hy hml hret hlk hnm W0
  refine o_iloadN W0 1 (hb hy d12_0) rfl rfl <| o_iloadN W0 2 (hb hy d12_1) rfl rfl ?_
  rcases ref_cases NgF with rfl | ⟨aF1, rfl⟩
  · refine o_getS W0 (w66 hw) Via.refl (SgF.ext W0.ox) 5 (hb hy d12_2) rfl ?_
    intro T2 W2
    refine o_staticC W2 (w68 hw) (w69 hw) (w67 hw) (w70 hw) (by decide) (rm99 l hw  h0 W2.old ) 0 0 0 (by decide) (by rw [hml]; rfl) (lenOf pd9 rfl) [] rfl rfl 8 (hb hy d12_5) rfl rfl rfl all0 tri ?_
    intro v3 T3 h3 lo3 W3 K3 q3
    obtain rfl := q3.2.2
    show Gl _ _ _ _ _ _ _ _ [(.int 2)]
    refine o_pop W3 9 (hb hy d12_8) rfl rfl ?_
    exact o_ret0 W3 hlk hret (hb hy d12_9) (by decide) (by decide) rfl
  · refine o_getS W0 (w66 hw) Via.refl (SgF.ext W0.ox) 5 (hb hy d12_2) rfl ?_
    intro T4 W4
    refine o_staticC W4 (w68 hw) (w69 hw) (w67 hw) (w70 hw) (by decide) (rm100 l hw aF1 h0 W4.old ) 0 0 0 (by decide) (by rw [hml]; rfl) (lenOf pd9 rfl) [] rfl rfl 8 (hb hy d12_5) rfl rfl rfl all0 tri ?_
    intro v5 T5 h5 lo5 W5 K5 q5
    obtain rfl := q5.2.2
    show Gl _ _ _ _ _ _ _ _ [(.int 2)]
    refine o_pop W5 9 (hb hy d12_8) rfl rfl ?_
    exact o_ret0 W5 hlk hret (hb hy d12_9) (by decide) (by decide) rfl
theorem rm102 (l : Launch) {Z a0} (hw : HW Z a0) (gF : Value) (a1 : Addr) (z0 : ClassId) (x1 x2 x3 : Int32) (h0 : Heap) (O0 : Old Z Z.heap.size h0) (z1 : Arv Z h0 a1 z0 .byte 3 [(.int (bB x1)), (.int (bB x2)), (.int (bB x3))] iZ) (SgF : Sta Z Z.heap s2 s3 s4 gF) (NgF : gF.isRef = true) (hu3 : own_c x3) (hc4 : ¬ ((255 : Int32) < x3)) :
    CtrN l Z mn15 jdk_43_method_2_code 2 (some .char) [] (⟨2, 0, 0, 27⟩ : Room) #[(.ref a1), (.int 2)] h0 [] (fun v h => v = some (.int x3)) := by
  refine CtrN.intro (L0 := #[vr a1, vi 2]) (plainFor_of_name pn5) O0 (own_entry rfl) ?_
  intro p e s m below meth c T0 hy hml hret hlk hnm W0
  refine o_iloadN W0 1 (hb hy d11_0) rfl rfl <| o_aloadN W0 2 (hb hy d11_1) rfl rfl rfl <| o_len W0 z1 3 (hb hy d11_2) rfl ?_
  refine o_staticC W0 (w63 hw) (w64 hw) (w8 hw) (w65 hw) (by decide) (rm101 l hw gF h0 W0.old SgF NgF) 0 0 0 (by decide) (by rw [hml]; rfl) (lenOf pd10 rfl) [] rfl rfl 6 (hb hy d11_3) rfl rfl rfl all0 tri ?_
  intro v1 T1 h1 lo1 W1 K1 q1
  obtain rfl := q1.2.2
  show Gl _ _ _ _ _ _ _ _ []
  refine o_aloadN W1 7 (hb hy d11_6) rfl rfl rfl <| o_iloadN W1 8 (hb hy d11_7) rfl rfl ?_
  have c2 := (z1.keep K1 nin0)
  refine o_baload W1 c2 (x := (bB x3)) (i := 2) (by decide) (by decide) (by decide) rfl 9 (hb hy d11_8) rfl <| o_sipush W1 (v := 255) 12 (hb hy d11_9) (by decide) rfl <| o_iand W1 (v := x3) 13 (hb hy d11_12) (own_lo8 (own_cb hu3 hc4)) rfl <| o_i2c W1 (v := x3) 14 (hb hy d11_13) (own_i2cc hu3) rfl ?_
  exact o_retN W1 hlk (t := .char) hret (by simp) (z' := x3) (own_i2cc hu3) (hb hy d11_14) (by decide) (by decide) rfl
theorem rm103 (l : Launch) {Z a0} (hw : HW Z a0) (gCS : Int32) (gF : Value) (a1 a2 : Addr) (z0 : ClassId) (x1 x2 x3 : Int32) (h0 : Heap) (O0 : Old Z Z.heap.size h0) (z1 : Exa Z h0 a1 s0) (SgCS : Sta Z Z.heap s0 s8 "Z" (.int gCS)) (NgCS : ¬ (gCS = (0 : Int32))) (z2 : Fld Z h0 a1 s0 "coder" "B" iZ) (z3 : Fld Z h0 a1 s0 "value" "[B" (.ref a2)) (z4 : Arv Z h0 a2 z0 .byte 3 [(.int (bB x1)), (.int (bB x2)), (.int (bB x3))] iZ) (SgF : Sta Z Z.heap s2 s3 s4 gF) (NgF : gF.isRef = true) (hu5 : own_c x3) (hc6 : ¬ ((255 : Int32) < x3)) :
    CtrN l Z mn2 jdk_42_method_56_code 2 (some .char) [] (⟨5, 0, 0, 70⟩ : Room) #[(.ref a1), (.int 2)] h0 [] (fun v h => v = some (.int x3)) := by
  refine CtrN.intro (L0 := #[vr a1, vi 2]) (plainFor_of_name pn1) O0 (own_entry rfl) ?_
  intro p e s m below meth c T0 hy hml hret hlk hnm W0
  refine o_aloadN W0 1 (hb hy d9_0) rfl rfl rfl ?_
  refine o_virtualC W0 (w54 hw) (w55 hw) (o_nf W0 rfl (w57 hw)) (w57 hw) (w56 hw) (by decide) z1 (w58 hw) (w8 hw) (rm14 l hw gCS a1 h0 W0.old SgCS NgCS z2) 0 0 0 (by decide) (by rw [hml]; rfl) (lenOf pd3 rfl) [] rfl rfl 4 (hb hy d9_1) rfl rfl rfl all0 tri ?_
  intro v1 T1 h1 lo1 W1 K1 q1
  obtain rfl := q1.2.2
  show Gl _ _ _ _ _ _ _ _ [(.int 1)]
  refine o_ifN W1 7 (hb hy d9_4) (XT.i0_eq_f (by decide)) rfl <| o_aloadN W1 8 (hb hy d9_7) rfl rfl rfl ?_
  have c2 := (z3.keep K1 nin0)
  refine o_getF W1 (w25 hw) Via.refl c2 11 (hb hy d9_8) rfl ?_
  intro T3 W3
  refine o_iloadN W3 12 (hb hy d9_11) rfl rfl ?_
  have c4 := (z4.keep K1 nin0)
  refine o_staticC W3 (w59 hw) (w60 hw) (w61 hw) (w62 hw) (by decide) (rm102 l hw gF a2 z0 x1 x2 x3 h1 W3.old c4 SgF NgF hu5 hc6) 0 0 0 (by decide) (by rw [hml]; rfl) (lenOf pd11 rfl) [] rfl rfl 15 (hb hy d9_12) rfl rfl rfl all0 tri ?_
  intro v7 T7 h7 lo7 W7 K7 q7
  obtain rfl := q7.2.2
  show Gl _ _ _ _ _ _ _ _ [(.int x3)]
  exact o_retN W7 hlk (t := .char) hret (by simp) (z' := x3) (own_i2cc hu5) (hb hy d9_15) (by decide) (by decide) rfl
theorem rm104 (l : Launch) {Z a0} (hw : HW Z a0) (a1 a2 : Addr) (z0 : ClassId) (x1 x2 x3 : Int32) (z1 : ClassId) (h0 : Heap) (O0 : Old Z Z.heap.size h0) (z2 : Arv Z h0 a1 z0 .char 3 [(.int x1), (.int x2), (.int x3)] iZ) (hu1 : own_c x1) (hc2 : ¬ ((255 : Int32) < x1)) (z3 : Arv Z h0 a2 z1 .byte 3 [iZ, iZ, iZ] iZ) (z4 : Z.heap.size ≤ a2) (z5 : a1 ≠ a2) (hu5 : own_c x2) (hc6 : ¬ ((255 : Int32) < x2)) (hu9 : own_c x3) (hc10 : (255 : Int32) < x3) :
    CtrN l Z mn8 jdk_52_method_21_code 7 (some .int) [] (⟨0, 0, 0, 0⟩ : Room) #[(.ref a1), iZ, (.ref a2), iZ, (.int 3)] h0 [a2] (fun v h => Arv Z h a2 z1 .byte 3 [(.int (bB x1)), (.int (bB x2)), iZ] iZ ∧ v = some (.int 2)) := by
  refine CtrN.intro (L0 := #[vr a1, vi 0, vr a2, vi 0, vi 3, un, un]) (plainFor_of_name pn3) O0 (own_entry rfl) ?_
  intro p e s m below meth c T0 hy hml hret hlk hnm W0
  refine o_iconst W0 (v := 0) 1 (hb hy d15_0) rfl rfl <| o_istore W0 (L' := #[vr a1, vi 0, vr a2, vi 0, vi 3, vi 0, un]) 3 (hb hy d15_1) rfl rfl <| o_iload W0 5 (hb hy d15_3) rfl rfl <| o_iload W0 7 (hb hy d15_5) rfl rfl <| o_icmpN W0 10 (hb hy d15_7) (XT.ii_ge_f (by decide)) rfl <| o_aloadN W0 11 (hb hy d15_10) rfl rfl rfl ?_
  refine o_iloadN W0 12 (hb hy d15_11) rfl rfl <| o_caload W0 z2 (x := x1) (i := 0) (by decide) (by decide) (by decide) rfl 13 (hb hy d15_12) rfl <| o_istore W0 (L' := #[vr a1, vi 0, vr a2, vi 0, vi 3, vi 0, vi x1]) 15 (hb hy d15_13) rfl rfl <| o_iload W0 17 (hb hy d15_15) rfl rfl <| o_sipush W0 (v := 255) 20 (hb hy d15_17) (by decide) rfl <| o_icmpY W0 26 (hb hy d15_20) (XT.ii_le_t (own_cb hu1 hc2).2) (by decide) rfl ?_
  refine o_aloadN W0 27 (hb hy d15_26) rfl rfl rfl <| o_iloadN W0 28 (hb hy d15_27) rfl rfl <| o_iload W0 30 (hb hy d15_28) rfl rfl <| o_i2b W0 (v := (bB x1)) 31 (hb hy d15_30) rfl rfl ?_
  refine o_stB W0 z3 (i := 0) (x' := (bB x1)) (by decide) (by decide) (by decide) (Nat.lt_of_sub_eq_succ rfl) (own_b8 _) (vs' := [(.int (bB x1)), iZ, iZ]) rfl z4 m0 tri 32 (hb hy d15_31) rfl ?_
  intro T3 h3 lo3 W3 R3 V3
  refine o_iinc W3 (v := 1) (L' := #[vr a1, vi 1, vr a2, vi 0, vi 3, vi 0, vi x1]) 35 (hb hy d15_32) rfl (by decide) rfl rfl <| o_iinc W3 (v := 1) (L' := #[vr a1, vi 1, vr a2, vi 1, vi 3, vi 0, vi x1]) 38 (hb hy d15_35) rfl (by decide) rfl rfl <| o_iinc W3 (v := 1) (L' := #[vr a1, vi 1, vr a2, vi 1, vi 3, vi 1, vi x1]) 41 (hb hy d15_38) rfl (by decide) rfl rfl <| o_goto W3 3 (hb hy d15_41) (by decide) rfl <| o_iload W3 5 (hb hy d15_3) rfl rfl <| o_iload W3 7 (hb hy d15_5) rfl rfl ?_
  refine o_icmpN W3 10 (hb hy d15_7) (XT.ii_ge_f (by decide)) rfl <| o_aloadN W3 11 (hb hy d15_10) rfl rfl rfl <| o_iloadN W3 12 (hb hy d15_11) rfl rfl ?_
  have c4 := (z2.other R3 z5)
  refine o_caload W3 c4 (x := x2) (i := 1) (by decide) (by decide) (by decide) rfl 13 (hb hy d15_12) rfl <| o_istore W3 (L' := #[vr a1, vi 1, vr a2, vi 1, vi 3, vi 1, vi x2]) 15 (hb hy d15_13) rfl rfl <| o_iload W3 17 (hb hy d15_15) rfl rfl <| o_sipush W3 (v := 255) 20 (hb hy d15_17) (by decide) rfl <| o_icmpY W3 26 (hb hy d15_20) (XT.ii_le_t (own_cb hu5 hc6).2) (by decide) rfl <| o_aloadN W3 27 (hb hy d15_26) rfl rfl rfl ?_
  refine o_iloadN W3 28 (hb hy d15_27) rfl rfl <| o_iload W3 30 (hb hy d15_28) rfl rfl <| o_i2b W3 (v := (bB x2)) 31 (hb hy d15_30) rfl rfl ?_
  refine o_stB W3 V3 (i := 1) (x' := (bB x2)) (by decide) (by decide) (by decide) (Nat.lt_of_sub_eq_succ rfl) (own_b8 _) (vs' := [(.int (bB x1)), (.int (bB x2)), iZ]) rfl z4 m0 tri 32 (hb hy d15_31) rfl ?_
  intro T7 h7 lo7 W7 R7 V7
  refine o_iinc W7 (v := 2) (L' := #[vr a1, vi 2, vr a2, vi 1, vi 3, vi 1, vi x2]) 35 (hb hy d15_32) rfl (by decide) rfl rfl <| o_iinc W7 (v := 2) (L' := #[vr a1, vi 2, vr a2, vi 2, vi 3, vi 1, vi x2]) 38 (hb hy d15_35) rfl (by decide) rfl rfl <| o_iinc W7 (v := 2) (L' := #[vr a1, vi 2, vr a2, vi 2, vi 3, vi 2, vi x2]) 41 (hb hy d15_38) rfl (by decide) rfl rfl <| o_goto W7 3 (hb hy d15_41) (by decide) rfl <| o_iload W7 5 (hb hy d15_3) rfl rfl <| o_iload W7 7 (hb hy d15_5) rfl rfl ?_
  refine o_icmpN W7 10 (hb hy d15_7) (XT.ii_ge_f (by decide)) rfl <| o_aloadN W7 11 (hb hy d15_10) rfl rfl rfl <| o_iloadN W7 12 (hb hy d15_11) rfl rfl ?_
  have c8 := (c4.other R7 z5)
  refine o_caload W7 c8 (x := x3) (i := 2) (by decide) (by decide) (by decide) rfl 13 (hb hy d15_12) rfl <| o_istore W7 (L' := #[vr a1, vi 2, vr a2, vi 2, vi 3, vi 2, vi x3]) 15 (hb hy d15_13) rfl rfl <| o_iload W7 17 (hb hy d15_15) rfl rfl <| o_sipush W7 (v := 255) 20 (hb hy d15_17) (by decide) rfl <| o_icmpN W7 23 (hb hy d15_20) (XT.ii_le_f hc10) rfl <| o_iload W7 25 (hb hy d15_23) rfl rfl ?_
  exact o_retI W7 hlk hret (hb hy d15_25) (by decide) (by decide) ⟨V7, rfl⟩
theorem rm105 (l : Launch) {Z a0} (hw : HW Z a0)  (h0 : Heap) (O0 : Old Z Z.heap.size h0) :
    CtrN l Z mn16 jdk_52_method_3_code 1 (some .int) [] (⟨0, 0, 0, 0⟩ : Room) #[(.int 3)] h0 [] (fun v h => v = some (.int 6)) := by
  refine CtrN.intro (L0 := #[vi 3]) (plainFor_of_name pn3) O0 (own_entry rfl) ?_
  intro p e s m below meth c T0 hy hml hret hlk hnm W0
  refine o_iloadN W0 1 (hb hy d20_0) rfl rfl <| o_ifY W0 12 (hb hy d20_1) (XT.i0_ge_t (by decide)) (by decide) rfl <| o_iloadN W0 13 (hb hy d20_12) rfl rfl <| o_ldcI W0 (w93 hw) 15 (hb hy d20_13) rfl <| o_icmpY W0 55 (hb hy d20_15) (XT.ii_lt_t (by decide)) (by decide) rfl <| o_iloadN W0 56 (hb hy d20_55) rfl rfl ?_
  refine o_iconst W0 (v := 1) 57 (hb hy d20_56) rfl rfl <| o_ishl W0 (v := 6) 58 (hb hy d20_57) (by decide) rfl ?_
  exact o_retI W0 hlk hret (hb hy d20_58) (by decide) (by decide) rfl
theorem rm106 (l : Launch) {Z a0} (hw : HW Z a0)  (h0 : Heap) (O0 : Old Z Z.heap.size h0) :
    CtrN l Z mn17 jdk_52_method_2_code 1 (some (.array .byte)) [] (⟨1, 1, 6, 12⟩ : Room) #[(.int 3)] h0 [] (fun v h => ∃ r1 : Addr, ∃ r2 : ClassId, h0.size ≤ r1 ∧ Arv Z h r1 r2 .byte 6 [iZ, iZ, iZ, iZ, iZ, iZ] iZ ∧ v = some (.ref r1)) := by
  refine CtrN.intro (L0 := #[vi 3]) (plainFor_of_name pn3) O0 (own_entry rfl) ?_
  intro p e s m below meth c T0 hy hml hret hlk hnm W0
  refine o_iloadN W0 1 (hb hy d19_0) rfl rfl ?_
  refine o_staticC W0 (w90 hw) (w91 hw) (w73 hw) (w92 hw) (by decide) (rm105 l hw  h0 W0.old ) 0 0 0 (by decide) (by rw [hml]; rfl) (lenOf pd12 rfl) [] rfl rfl 4 (hb hy d19_1) rfl rfl rfl all0 tri ?_
  intro v1 T1 h1 lo1 W1 K1 q1
  obtain rfl := q1.2.2
  show Gl _ _ _ _ _ _ _ _ [(.int 6)]
  refine o_newP W1 (aty := .byte) (w20 hw) tri (by decide) (cap := 6) (by decide) (by decide) 6 (hb hy d19_4) rfl (cells' := 1) (slots' := 6) rfl rfl (by decide) (by decide) (vs := [iZ, iZ, iZ, iZ, iZ, iZ]) (dv := iZ) rfl rfl ?_
  intro b2 T2 h2 k2 W2 E2 ge2 gz2 gb2 V2
  exact o_retA W2 hlk (v := (.ref b2)) hret rfl rfl (hb hy d19_6) (by decide) (by decide) ⟨b2, k2, gb2, V2, rfl⟩
theorem rm107 (l : Launch) {Z a0} (hw : HW Z a0) (a1 : Addr) (x1 : Int32) (z0 : ClassId) (h0 : Heap) (O0 : Old Z Z.heap.size h0) (z1 : Sta Z Z.heap s1 s5 "Z" (.int 1)) (z2 : Sta Z Z.heap s1 s6 "I" iZ) (z3 : Arv Z h0 a1 z0 .byte 6 [iZ, iZ, iZ, iZ, iZ, iZ] iZ) (z4 : Z.heap.size ≤ a1) (z5 : Sta Z Z.heap s1 s7 "I" (.int 8)) :
    CtrN l Z mn18 jdk_52_method_4_code 3 none [] (⟨0, 0, 0, 0⟩ : Room) #[(.ref a1), iZ, (.int x1)] h0 [a1] (fun v h => Arv Z h a1 z0 .byte 6 [(.int (bH x1)), (.int (bL x1)), iZ, iZ, iZ, iZ] iZ ∧ v = none) := by
  refine CtrN.intro (L0 := #[vr a1, vi 0, vi x1]) (plainFor_of_name pn3) O0 (own_entry rfl) ?_
  intro p e s m below meth c T0 hy hml hret hlk hnm W0
  refine o_getS W0 (w97 hw) Via.refl (z1.ext W0.ox) 3 (hb hy d21_0) rfl ?_
  intro T1 W1
  refine o_ifY W1 28 (hb hy d21_3) (XT.i0_ne_t (by decide)) (by decide) rfl <| o_iloadN W1 29 (hb hy d21_28) rfl rfl <| o_iconst W1 (v := 1) 30 (hb hy d21_29) rfl rfl <| o_ishl W1 (v := 0) 31 (hb hy d21_30) (by decide) rfl <| o_istoreN W1 (L' := #[vr a1, vi 0, vi x1]) 32 (hb hy d21_31) rfl rfl <| o_aloadN W1 33 (hb hy d21_32) rfl rfl rfl ?_
  refine o_iloadN W1 34 (hb hy d21_33) rfl rfl <| o_iinc W1 (v := 1) (L' := #[vr a1, vi 1, vi x1]) 37 (hb hy d21_34) rfl (by decide) rfl rfl <| o_iloadN W1 38 (hb hy d21_37) rfl rfl ?_
  refine o_getS W1 (w98 hw) Via.refl (z2.ext W1.ox) 41 (hb hy d21_38) rfl ?_
  intro T2 W2
  refine o_ishr W2 (v := (x1 >>> ((0 : Int32) &&& 31))) 42 (hb hy d21_41) rfl rfl <| o_i2b W2 (v := (bH x1)) 43 (hb hy d21_42) rfl rfl ?_
  refine o_stB W2 z3 (i := 0) (x' := (bH x1)) (by decide) (by decide) (by decide) (Nat.lt_of_sub_eq_succ rfl) (own_b8 _) (vs' := [(.int (bH x1)), iZ, iZ, iZ, iZ, iZ]) rfl z4 m0 tri 44 (hb hy d21_43) rfl ?_
  intro T3 h3 lo3 W3 R3 V3
  refine o_aloadN W3 45 (hb hy d21_44) rfl rfl rfl <| o_iloadN W3 46 (hb hy d21_45) rfl rfl <| o_iloadN W3 47 (hb hy d21_46) rfl rfl ?_
  refine o_getS W3 (w99 hw) Via.refl (z5.ext W3.ox) 50 (hb hy d21_47) rfl ?_
  intro T4 W4
  refine o_ishr W4 (v := (x1 >>> ((8 : Int32) &&& 31))) 51 (hb hy d21_50) rfl rfl <| o_i2b W4 (v := (bL x1)) 52 (hb hy d21_51) rfl rfl ?_
  refine o_stB W4 V3 (i := 1) (x' := (bL x1)) (by decide) (by decide) (by decide) (Nat.lt_of_sub_eq_succ rfl) (own_b8 _) (vs' := [(.int (bH x1)), (.int (bL x1)), iZ, iZ, iZ, iZ]) rfl z4 m0 tri 53 (hb hy d21_52) rfl ?_
  intro T5 h5 lo5 W5 R5 V5
  exact o_ret0 W5 hlk hret (hb hy d21_53) (by decide) (by decide) ⟨V5, rfl⟩
theorem rm108 (l : Launch) {Z a0} (hw : HW Z a0) (a1 : Addr) (x1 : Int32) (z0 : ClassId) (x2 : Int32) (h0 : Heap) (O0 : Old Z Z.heap.size h0) (z1 : Sta Z Z.heap s1 s5 "Z" (.int 1)) (z2 : Sta Z Z.heap s1 s6 "I" iZ) (z3 : Arv Z h0 a1 z0 .byte 6 [(.int (bH x2)), (.int (bL x2)), iZ, iZ, iZ, iZ] iZ) (z4 : Z.heap.size ≤ a1) (z5 : Sta Z Z.heap s1 s7 "I" (.int 8)) :
    CtrN l Z mn18 jdk_52_method_4_code 3 none [] (⟨0, 0, 0, 0⟩ : Room) #[(.ref a1), (.int 1), (.int x1)] h0 [a1] (fun v h => Arv Z h a1 z0 .byte 6 [(.int (bH x2)), (.int (bL x2)), (.int (bH x1)), (.int (bL x1)), iZ, iZ] iZ ∧ v = none) := by
  refine CtrN.intro (L0 := #[vr a1, vi 1, vi x1]) (plainFor_of_name pn3) O0 (own_entry rfl) ?_
  intro p e s m below meth c T0 hy hml hret hlk hnm W0
  refine o_getS W0 (w97 hw) Via.refl (z1.ext W0.ox) 3 (hb hy d21_0) rfl ?_
  intro T1 W1
  refine o_ifY W1 28 (hb hy d21_3) (XT.i0_ne_t (by decide)) (by decide) rfl <| o_iloadN W1 29 (hb hy d21_28) rfl rfl <| o_iconst W1 (v := 1) 30 (hb hy d21_29) rfl rfl <| o_ishl W1 (v := 2) 31 (hb hy d21_30) (by decide) rfl <| o_istoreN W1 (L' := #[vr a1, vi 2, vi x1]) 32 (hb hy d21_31) rfl rfl <| o_aloadN W1 33 (hb hy d21_32) rfl rfl rfl ?_
  refine o_iloadN W1 34 (hb hy d21_33) rfl rfl <| o_iinc W1 (v := 3) (L' := #[vr a1, vi 3, vi x1]) 37 (hb hy d21_34) rfl (by decide) rfl rfl <| o_iloadN W1 38 (hb hy d21_37) rfl rfl ?_
  refine o_getS W1 (w98 hw) Via.refl (z2.ext W1.ox) 41 (hb hy d21_38) rfl ?_
  intro T2 W2
  refine o_ishr W2 (v := (x1 >>> ((0 : Int32) &&& 31))) 42 (hb hy d21_41) rfl rfl <| o_i2b W2 (v := (bH x1)) 43 (hb hy d21_42) rfl rfl ?_
  refine o_stB W2 z3 (i := 2) (x' := (bH x1)) (by decide) (by decide) (by decide) (Nat.lt_of_sub_eq_succ rfl) (own_b8 _) (vs' := [(.int (bH x2)), (.int (bL x2)), (.int (bH x1)), iZ, iZ, iZ]) rfl z4 m0 tri 44 (hb hy d21_43) rfl ?_
  intro T3 h3 lo3 W3 R3 V3
  refine o_aloadN W3 45 (hb hy d21_44) rfl rfl rfl <| o_iloadN W3 46 (hb hy d21_45) rfl rfl <| o_iloadN W3 47 (hb hy d21_46) rfl rfl ?_
  refine o_getS W3 (w99 hw) Via.refl (z5.ext W3.ox) 50 (hb hy d21_47) rfl ?_
  intro T4 W4
  refine o_ishr W4 (v := (x1 >>> ((8 : Int32) &&& 31))) 51 (hb hy d21_50) rfl rfl <| o_i2b W4 (v := (bL x1)) 52 (hb hy d21_51) rfl rfl ?_
  refine o_stB W4 V3 (i := 3) (x' := (bL x1)) (by decide) (by decide) (by decide) (Nat.lt_of_sub_eq_succ rfl) (own_b8 _) (vs' := [(.int (bH x2)), (.int (bL x2)), (.int (bH x1)), (.int (bL x1)), iZ, iZ]) rfl z4 m0 tri 53 (hb hy d21_52) rfl ?_
  intro T5 h5 lo5 W5 R5 V5
  exact o_ret0 W5 hlk hret (hb hy d21_53) (by decide) (by decide) ⟨V5, rfl⟩
theorem rm109 (l : Launch) {Z a0} (hw : HW Z a0) (a1 : Addr) (x1 : Int32) (z0 : ClassId) (x2 x3 : Int32) (h0 : Heap) (O0 : Old Z Z.heap.size h0) (z1 : Sta Z Z.heap s1 s5 "Z" (.int 1)) (z2 : Sta Z Z.heap s1 s6 "I" iZ) (z3 : Arv Z h0 a1 z0 .byte 6 [(.int (bH x2)), (.int (bL x2)), (.int (bH x3)), (.int (bL x3)), iZ, iZ] iZ) (z4 : Z.heap.size ≤ a1) (z5 : Sta Z Z.heap s1 s7 "I" (.int 8)) :
    CtrN l Z mn18 jdk_52_method_4_code 3 none [] (⟨0, 0, 0, 0⟩ : Room) #[(.ref a1), (.int 2), (.int x1)] h0 [a1] (fun v h => Arv Z h a1 z0 .byte 6 [(.int (bH x2)), (.int (bL x2)), (.int (bH x3)), (.int (bL x3)), (.int (bH x1)), (.int (bL x1))] iZ ∧ v = none) := by
  refine CtrN.intro (L0 := #[vr a1, vi 2, vi x1]) (plainFor_of_name pn3) O0 (own_entry rfl) ?_
  intro p e s m below meth c T0 hy hml hret hlk hnm W0
  refine o_getS W0 (w97 hw) Via.refl (z1.ext W0.ox) 3 (hb hy d21_0) rfl ?_
  intro T1 W1
  refine o_ifY W1 28 (hb hy d21_3) (XT.i0_ne_t (by decide)) (by decide) rfl <| o_iloadN W1 29 (hb hy d21_28) rfl rfl <| o_iconst W1 (v := 1) 30 (hb hy d21_29) rfl rfl <| o_ishl W1 (v := 4) 31 (hb hy d21_30) (by decide) rfl <| o_istoreN W1 (L' := #[vr a1, vi 4, vi x1]) 32 (hb hy d21_31) rfl rfl <| o_aloadN W1 33 (hb hy d21_32) rfl rfl rfl ?_
  refine o_iloadN W1 34 (hb hy d21_33) rfl rfl <| o_iinc W1 (v := 5) (L' := #[vr a1, vi 5, vi x1]) 37 (hb hy d21_34) rfl (by decide) rfl rfl <| o_iloadN W1 38 (hb hy d21_37) rfl rfl ?_
  refine o_getS W1 (w98 hw) Via.refl (z2.ext W1.ox) 41 (hb hy d21_38) rfl ?_
  intro T2 W2
  refine o_ishr W2 (v := (x1 >>> ((0 : Int32) &&& 31))) 42 (hb hy d21_41) rfl rfl <| o_i2b W2 (v := (bH x1)) 43 (hb hy d21_42) rfl rfl ?_
  refine o_stB W2 z3 (i := 4) (x' := (bH x1)) (by decide) (by decide) (by decide) (Nat.lt_of_sub_eq_succ rfl) (own_b8 _) (vs' := [(.int (bH x2)), (.int (bL x2)), (.int (bH x3)), (.int (bL x3)), (.int (bH x1)), iZ]) rfl z4 m0 tri 44 (hb hy d21_43) rfl ?_
  intro T3 h3 lo3 W3 R3 V3
  refine o_aloadN W3 45 (hb hy d21_44) rfl rfl rfl <| o_iloadN W3 46 (hb hy d21_45) rfl rfl <| o_iloadN W3 47 (hb hy d21_46) rfl rfl ?_
  refine o_getS W3 (w99 hw) Via.refl (z5.ext W3.ox) 50 (hb hy d21_47) rfl ?_
  intro T4 W4
  refine o_ishr W4 (v := (x1 >>> ((8 : Int32) &&& 31))) 51 (hb hy d21_50) rfl rfl <| o_i2b W4 (v := (bL x1)) 52 (hb hy d21_51) rfl rfl ?_
  refine o_stB W4 V3 (i := 5) (x' := (bL x1)) (by decide) (by decide) (by decide) (Nat.lt_of_sub_eq_succ rfl) (own_b8 _) (vs' := [(.int (bH x2)), (.int (bL x2)), (.int (bH x3)), (.int (bL x3)), (.int (bH x1)), (.int (bL x1))]) rfl z4 m0 tri 53 (hb hy d21_52) rfl ?_
  intro T5 h5 lo5 W5 R5 V5
  exact o_ret0 W5 hlk hret (hb hy d21_53) (by decide) (by decide) ⟨V5, rfl⟩
theorem rm110 (l : Launch) {Z a0} (hw : HW Z a0) (a1 : Addr) (z0 : ClassId) (x1 x2 x3 : Int32) (h0 : Heap) (O0 : Old Z Z.heap.size h0) (z1 : Arv Z h0 a1 z0 .char 3 [(.int x1), (.int x2), (.int x3)] iZ) (z2 : Sta Z Z.heap s1 s5 "Z" (.int 1)) (z3 : Sta Z Z.heap s1 s6 "I" iZ) (z4 : Sta Z Z.heap s1 s7 "I" (.int 8)) :
    CtrN l Z mn19 jdk_52_method_14_code 5 (some (.array .byte)) [] (⟨2, 1, 6, 24⟩ : Room) #[(.ref a1), iZ, (.int 3)] h0 [] (fun v h => ∃ r1 : Addr, ∃ r2 : ClassId, h0.size ≤ r1 ∧ Arv Z h r1 r2 .byte 6 [(.int (bH x1)), (.int (bL x1)), (.int (bH x2)), (.int (bL x2)), (.int (bH x3)), (.int (bL x3))] iZ ∧ v = some (.ref r1)) := by
  refine CtrN.intro (L0 := #[vr a1, vi 0, vi 3, un, un]) (plainFor_of_name pn3) O0 (own_entry rfl) ?_
  intro p e s m below meth c T0 hy hml hret hlk hnm W0
  refine o_iloadN W0 1 (hb hy d18_0) rfl rfl ?_
  refine o_staticC W0 (w87 hw) (w88 hw) (w73 hw) (w89 hw) (by decide) (rm106 l hw  h0 W0.old ) 0 1 6 (by decide) (by rw [hml]; rfl) (lenOf pd13 rfl) [] rfl rfl 4 (hb hy d18_1) rfl rfl rfl all0 tri ?_
  intro v1 T1 h1 lo1 W1 K1 q1
  obtain ⟨r1_1, r2_1, P1_0, P1_1, rfl⟩ := q1.2.2
  show Gl _ _ _ _ _ _ _ _ [(.ref r1_1)]
  refine o_astoreN W1 (L' := #[vr a1, vi 0, vi 3, vr r1_1, un]) 5 (hb hy d18_4) rfl rfl rfl <| o_iconst W1 (v := 0) 6 (hb hy d18_5) rfl rfl <| o_istore W1 (L' := #[vr a1, vi 0, vi 3, vr r1_1, vi 0]) 8 (hb hy d18_6) rfl rfl <| o_iload W1 10 (hb hy d18_8) rfl rfl <| o_iloadN W1 11 (hb hy d18_10) rfl rfl <| o_icmpN W1 14 (hb hy d18_11) (XT.ii_ge_f (by decide)) rfl ?_
  refine o_aloadN W1 15 (hb hy d18_14) rfl rfl rfl <| o_iload W1 17 (hb hy d18_15) rfl rfl <| o_aloadN W1 18 (hb hy d18_17) rfl rfl rfl <| o_iloadN W1 19 (hb hy d18_18) rfl rfl ?_
  have c2 := (z1.keep K1 nin0)
  refine o_caload W1 c2 (x := x1) (i := 0) (by decide) (by decide) (by decide) rfl 20 (hb hy d18_19) rfl ?_
  refine o_staticC W1 (w94 hw) (w95 hw) (w73 hw) (w96 hw) (by decide) (rm107 l hw r1_1 x1 r2_1 h1 W1.old z2 z3 P1_1 (Nat.le_trans W0.zs P1_0) z4) 0 1 6 (by decide) (by rw [hml]; rfl) (lenOf pd14 rfl) [] rfl rfl 23 (hb hy d18_20) rfl rfl rfl (allS ⟨(Nat.le_trans W0.zs P1_0), (Or.inr (Nat.le_trans W0.keep.1 P1_0))⟩ all0) tri ?_
  intro v3 T3 h3 lo3 W3 K3 q3
  obtain ⟨P3_0, rfl⟩ := q3.2.2
  show Gl _ _ _ _ _ _ _ _ []
  refine o_iinc W3 (v := 1) (L' := #[vr a1, vi 1, vi 3, vr r1_1, vi 0]) 26 (hb hy d18_23) rfl (by decide) rfl rfl <| o_iinc W3 (v := 1) (L' := #[vr a1, vi 1, vi 3, vr r1_1, vi 1]) 29 (hb hy d18_26) rfl (by decide) rfl rfl <| o_goto W3 8 (hb hy d18_29) (by decide) rfl <| o_iload W3 10 (hb hy d18_8) rfl rfl <| o_iloadN W3 11 (hb hy d18_10) rfl rfl <| o_icmpN W3 14 (hb hy d18_11) (XT.ii_ge_f (by decide)) rfl ?_
  refine o_aloadN W3 15 (hb hy d18_14) rfl rfl rfl <| o_iload W3 17 (hb hy d18_15) rfl rfl <| o_aloadN W3 18 (hb hy d18_17) rfl rfl rfl <| o_iloadN W3 19 (hb hy d18_18) rfl rfl ?_
  have c4 := (c2.keep K3 (ninS (own_ne z1.lt P1_0) nin0))
  refine o_caload W3 c4 (x := x2) (i := 1) (by decide) (by decide) (by decide) rfl 20 (hb hy d18_19) rfl ?_
  refine o_staticC W3 (w94 hw) (w95 hw) (w73 hw) (w96 hw) (by decide) (rm108 l hw r1_1 x2 r2_1 x1 h3 W3.old z2 z3 P3_0 (Nat.le_trans W0.zs P1_0) z4) 0 1 6 (by decide) (by rw [hml]; rfl) (lenOf pd14 rfl) [] rfl rfl 23 (hb hy d18_20) rfl rfl rfl (allS ⟨(Nat.le_trans W0.zs P1_0), (Or.inr (Nat.le_trans W0.keep.1 P1_0))⟩ all0) tri ?_
  intro v5 T5 h5 lo5 W5 K5 q5
  obtain ⟨P5_0, rfl⟩ := q5.2.2
  show Gl _ _ _ _ _ _ _ _ []
  refine o_iinc W5 (v := 2) (L' := #[vr a1, vi 2, vi 3, vr r1_1, vi 1]) 26 (hb hy d18_23) rfl (by decide) rfl rfl <| o_iinc W5 (v := 2) (L' := #[vr a1, vi 2, vi 3, vr r1_1, vi 2]) 29 (hb hy d18_26) rfl (by decide) rfl rfl <| o_goto W5 8 (hb hy d18_29) (by decide) rfl <| o_iload W5 10 (hb hy d18_8) rfl rfl <| o_iloadN W5 11 (hb hy d18_10) rfl rfl <| o_icmpN W5 14 (hb hy d18_11) (XT.ii_ge_f (by decide)) rfl ?_
  refine o_aloadN W5 15 (hb hy d18_14) rfl rfl rfl <| o_iload W5 17 (hb hy d18_15) rfl rfl <| o_aloadN W5 18 (hb hy d18_17) rfl rfl rfl <| o_iloadN W5 19 (hb hy d18_18) rfl rfl ?_
  have c6 := (c4.keep K5 (ninS (own_ne z1.lt P1_0) nin0))
  refine o_caload W5 c6 (x := x3) (i := 2) (by decide) (by decide) (by decide) rfl 20 (hb hy d18_19) rfl ?_
  refine o_staticC W5 (w94 hw) (w95 hw) (w73 hw) (w96 hw) (by decide) (rm109 l hw r1_1 x3 r2_1 x1 x2 h5 W5.old z2 z3 P5_0 (Nat.le_trans W0.zs P1_0) z4) 0 1 6 (by decide) (by rw [hml]; rfl) (lenOf pd14 rfl) [] rfl rfl 23 (hb hy d18_20) rfl rfl rfl (allS ⟨(Nat.le_trans W0.zs P1_0), (Or.inr (Nat.le_trans W0.keep.1 P1_0))⟩ all0) tri ?_
  intro v7 T7 h7 lo7 W7 K7 q7
  obtain ⟨P7_0, rfl⟩ := q7.2.2
  show Gl _ _ _ _ _ _ _ _ []
  refine o_iinc W7 (v := 3) (L' := #[vr a1, vi 3, vi 3, vr r1_1, vi 2]) 26 (hb hy d18_23) rfl (by decide) rfl rfl <| o_iinc W7 (v := 3) (L' := #[vr a1, vi 3, vi 3, vr r1_1, vi 3]) 29 (hb hy d18_26) rfl (by decide) rfl rfl <| o_goto W7 8 (hb hy d18_29) (by decide) rfl <| o_iload W7 10 (hb hy d18_8) rfl rfl <| o_iloadN W7 11 (hb hy d18_10) rfl rfl <| o_icmpY W7 32 (hb hy d18_11) (XT.ii_ge_t (by decide)) (by decide) rfl ?_
  refine o_aloadN W7 33 (hb hy d18_32) rfl rfl rfl ?_
  exact o_retA W7 hlk (v := (.ref r1_1)) hret rfl rfl (hb hy d18_33) (by decide) (by decide) ⟨r1_1, r2_1, (Nat.le_trans W0.keep.1 P1_0), P7_0, rfl⟩
theorem rm111 (l : Launch) {Z a0} (hw : HW Z a0) (a1 : Addr) (z0 : ClassId) (x1 x2 x3 : Int32) (h0 : Heap) (O0 : Old Z Z.heap.size h0) (z1 : Sta Z Z.heap s1 s5 "Z" (.int 1)) (z2 : Arv Z h0 a1 z0 .byte 6 [(.int (bH x1)), (.int (bL x1)), (.int (bH x2)), (.int (bL x2)), (.int (bH x3)), (.int (bL x3))] iZ) (z3 : Sta Z Z.heap s1 s6 "I" iZ) (z4 : Sta Z Z.heap s1 s7 "I" (.int 8)) (hu4 : own_c x3) :
    CtrN l Z mn20 jdk_52_method_5_code 2 (some .char) [] (⟨0, 0, 0, 0⟩ : Room) #[(.ref a1), (.int 2)] h0 [] (fun v h => v = some (.int x3)) := by
  refine CtrN.intro (L0 := #[vr a1, vi 2]) (plainFor_of_name pn3) O0 (own_entry rfl) ?_
  intro p e s m below meth c T0 hy hml hret hlk hnm W0
  refine o_getS W0 (w97 hw) Via.refl (z1.ext W0.ox) 3 (hb hy d22_0) rfl ?_
  intro T1 W1
  refine o_ifY W1 28 (hb hy d22_3) (XT.i0_ne_t (by decide)) (by decide) rfl <| o_iloadN W1 29 (hb hy d22_28) rfl rfl <| o_iconst W1 (v := 1) 30 (hb hy d22_29) rfl rfl <| o_ishl W1 (v := 4) 31 (hb hy d22_30) (by decide) rfl <| o_istoreN W1 (L' := #[vr a1, vi 4]) 32 (hb hy d22_31) rfl rfl <| o_aloadN W1 33 (hb hy d22_32) rfl rfl rfl ?_
  refine o_iloadN W1 34 (hb hy d22_33) rfl rfl <| o_iinc W1 (v := 5) (L' := #[vr a1, vi 5]) 37 (hb hy d22_34) rfl (by decide) rfl rfl <| o_baload W1 z2 (x := (bH x3)) (i := 4) (by decide) (by decide) (by decide) rfl 38 (hb hy d22_37) rfl <| o_sipush W1 (v := 255) 41 (hb hy d22_38) (by decide) rfl <| o_iand W1 (v := ((bH x3) &&& 255)) 42 (hb hy d22_41) rfl rfl ?_
  refine o_getS W1 (w98 hw) Via.refl (z3.ext W1.ox) 45 (hb hy d22_42) rfl ?_
  intro T2 W2
  refine o_ishl W2 (v := (((bH x3) &&& 255) <<< ((0 : Int32) &&& 31))) 46 (hb hy d22_45) rfl rfl <| o_aloadN W2 47 (hb hy d22_46) rfl rfl rfl <| o_iloadN W2 48 (hb hy d22_47) rfl rfl <| o_baload W2 z2 (x := (bL x3)) (i := 5) (by decide) (by decide) (by decide) rfl 49 (hb hy d22_48) rfl <| o_sipush W2 (v := 255) 52 (hb hy d22_49) (by decide) rfl <| o_iand W2 (v := ((bL x3) &&& 255)) 53 (hb hy d22_52) rfl rfl ?_
  refine o_getS W2 (w99 hw) Via.refl (z4.ext W2.ox) 56 (hb hy d22_53) rfl ?_
  intro T3 W3
  refine o_ishl W3 (v := (((bL x3) &&& 255) <<< ((8 : Int32) &&& 31))) 57 (hb hy d22_56) rfl rfl <| o_ior W3 (v := ((((bH x3) &&& 255) <<< ((0 : Int32) &&& 31)) ||| (((bL x3) &&& 255) <<< ((8 : Int32) &&& 31)))) 58 (hb hy d22_57) rfl rfl <| o_i2c W3 (v := x3) 59 (hb hy d22_58) (own_join hu4) rfl ?_
  exact o_retN W3 hlk (t := .char) hret (by simp) (z' := x3) (own_i2cc hu4) (hb hy d22_59) (by decide) (by decide) rfl
theorem rm112 (l : Launch) {Z a0} (hw : HW Z a0) (a1 : Addr) (z0 : ClassId) (x1 x2 x3 : Int32) (h0 : Heap) (O0 : Old Z Z.heap.size h0) (z1 : Arv Z h0 a1 z0 .char 3 [(.int x1), (.int x2), (.int x3)] iZ) (hu3 : own_c x1) (hc4 : ¬ ((255 : Int32) < x1)) (hu5 : own_c x2) (hc6 : ¬ ((255 : Int32) < x2)) (hu7 : own_c x3) (hc8 : (255 : Int32) < x3) (z2 : Sta Z Z.heap s1 s5 "Z" (.int 1)) (z3 : Sta Z Z.heap s1 s6 "I" iZ) (z4 : Sta Z Z.heap s1 s7 "I" (.int 8)) :
    CtrN l Z mn9 jdk_52_method_16_code 6 (some (.array .byte)) [] (⟨3, 2, 9, 40⟩ : Room) #[(.ref a1), iZ, (.int 3)] h0 [] (fun v h => ∃ r1 : Addr, ∃ r2 : ClassId, h0.size ≤ r1 ∧ Arv Z h r1 r2 .byte 6 [(.int (bH x1)), (.int (bL x1)), (.int (bH x2)), (.int (bL x2)), (.int (bH x3)), (.int (bL x3))] iZ ∧ v = some (.ref r1)) := by
  refine CtrN.intro (L0 := #[vr a1, vi 0, vi 3, un, un, un]) (plainFor_of_name pn3) O0 (own_entry rfl) ?_
  intro p e s m below meth c T0 hy hml hret hlk hnm W0
  refine o_iloadN W0 1 (hb hy d14_0) rfl rfl ?_
  refine o_newP W0 (aty := .byte) (w20 hw) tri (by decide) (cap := 3) (by decide) (by decide) 3 (hb hy d14_1) rfl (cells' := 1) (slots' := 3) rfl rfl (by decide) (by decide) (vs := [iZ, iZ, iZ]) (dv := iZ) rfl rfl ?_
  intro b1 T1 h1 k1 W1 E1 ge1 gz1 gb1 V1
  refine o_astoreN W1 (L' := #[vr a1, vi 0, vi 3, vr b1, un, un]) 4 (hb hy d14_3) rfl rfl rfl <| o_aloadN W1 5 (hb hy d14_4) rfl rfl rfl <| o_iloadN W1 6 (hb hy d14_5) rfl rfl <| o_aloadN W1 7 (hb hy d14_6) rfl rfl rfl <| o_iconst W1 (v := 0) 8 (hb hy d14_7) rfl rfl <| o_iloadN W1 9 (hb hy d14_8) rfl rfl ?_
  have c2 := (z1.ext E1)
  refine o_staticC W1 (w75 hw) (w76 hw) (w73 hw) (w77 hw) (by decide) (rm104 l hw a1 b1 z0 x1 x2 x3 k1 h1 W1.old c2 hu3 hc4 V1 gz1 (own_ne z1.lt ge1) hu5 hc6 hu7 hc8) 0 1 3 (by decide) (by rw [hml]; rfl) (lenOf pd5 rfl) [] rfl rfl 12 (hb hy d14_9) rfl rfl rfl (allS ⟨gz1, (Or.inr gb1)⟩ all0) tri ?_
  intro v9 T9 h9 lo9 W9 K9 q9
  obtain ⟨P9_0, rfl⟩ := q9.2.2
  show Gl _ _ _ _ _ _ _ _ [(.int 2)]
  refine o_istore W9 (L' := #[vr a1, vi 0, vi 3, vr b1, vi 2, un]) 14 (hb hy d14_12) rfl rfl <| o_iload W9 16 (hb hy d14_14) rfl rfl <| o_iloadN W9 17 (hb hy d14_16) rfl rfl <| o_icmpN W9 20 (hb hy d14_17) (XT.ii_eq_f (by decide)) rfl <| o_aloadN W9 21 (hb hy d14_20) rfl rfl rfl <| o_iloadN W9 22 (hb hy d14_21) rfl rfl ?_
  refine o_iloadN W9 23 (hb hy d14_22) rfl rfl ?_
  have c10 := (c2.keep K9 (ninS (own_ne z1.lt ge1) nin0))
  refine o_staticC W9 (w84 hw) (w85 hw) (w73 hw) (w86 hw) (by decide) (rm110 l hw a1 z0 x1 x2 x3 h9 W9.old c10 z2 z3 z4) 0 2 9 (by decide) (by rw [hml]; rfl) (lenOf pd6 rfl) [] rfl rfl 26 (hb hy d14_23) rfl rfl rfl all0 tri ?_
  intro v11 T11 h11 lo11 W11 K11 q11
  obtain ⟨r1_11, r2_11, P11_0, P11_1, rfl⟩ := q11.2.2
  show Gl _ _ _ _ _ _ _ _ [(.ref r1_11)]
  refine o_astore W11 (L' := #[vr a1, vi 0, vi 3, vr b1, vi 2, vr r1_11]) 28 (hb hy d14_26) rfl rfl rfl <| o_aload W11 30 (hb hy d14_28) rfl rfl rfl <| o_iload W11 32 (hb hy d14_30) rfl rfl ?_
  refine o_staticC W11 (w100 hw) (w101 hw) (w73 hw) (w102 hw) (by decide) (rm111 l hw r1_11 r2_11 x1 x2 x3 h11 W11.old z2 P11_1 z3 z4 hu7) 0 2 9 (by decide) (by rw [hml]; rfl) (lenOf pd11 rfl) [] rfl rfl 35 (hb hy d14_32) rfl rfl rfl all0 tri ?_
  intro v12 T12 h12 lo12 W12 K12 q12
  obtain rfl := q12.2.2
  show Gl _ _ _ _ _ _ _ _ [(.int x3)]
  refine o_sipush W12 (v := 255) 38 (hb hy d14_35) (by decide) rfl <| o_icmpY W12 54 (hb hy d14_38) (XT.ii_gt_t hc8) (by decide) rfl <| o_aload W12 56 (hb hy d14_54) rfl rfl rfl ?_
  have c13 := (P11_1.keep K12 nin0)
  exact o_retA W12 hlk (v := (.ref r1_11)) hret rfl rfl (hb hy d14_56) (by decide) (by decide) ⟨r1_11, r2_11, (Nat.le_trans W9.keep.1 P11_0), c13, rfl⟩
theorem rm113 (l : Launch) {Z a0} (hw : HW Z a0) (a1 : Addr) (z0 : ClassId) (x1 x2 x3 : Int32) (h0 : Heap) (O0 : Old Z Z.heap.size h0) (z1 : Arv Z h0 a1 z0 .byte 6 [(.int (bH x1)), (.int (bL x1)), (.int (bH x2)), (.int (bL x2)), (.int (bH x3)), (.int (bL x3))] iZ) :
    CtrN l Z mn10 jdk_52_method_15_code 2 (some .byte) [] (⟨0, 0, 0, 0⟩ : Room) #[(.ref a1), (.int 3)] h0 [] (fun v h => v = some (.int 1)) := by
  refine CtrN.intro (L0 := #[vr a1, vi 3]) (plainFor_of_name pn3) O0 (own_entry rfl) ?_
  intro p e s m below meth c T0 hy hml hret hlk hnm W0
  refine o_iloadN W0 1 (hb hy d16_0) rfl rfl <| o_aloadN W0 2 (hb hy d16_1) rfl rfl rfl <| o_len W0 z1 3 (hb hy d16_2) rfl <| o_isub W0 (v := (-3 : Int32)) 4 (hb hy d16_3) (by decide) rfl <| o_bipush W0 (v := 31) 6 (hb hy d16_4) (by decide) rfl <| o_iushr W0 (v := 1) 7 (hb hy d16_6) (by decide) rfl ?_
  refine o_i2b W0 (v := 1) 8 (hb hy d16_7) (by decide) rfl ?_
  exact o_retN W0 hlk (t := .byte) hret (by simp) (z' := (1 : Int32)) (by decide) (hb hy d16_8) (by decide) (by decide) rfl
theorem rm114 (l : Launch) {Z a0} (hw : HW Z a0) (gCS : Int32) (a1 a2 : Addr) (z0 : ClassId) (x1 x2 x3 : Int32) (h0 : Heap) (O0 : Old Z Z.heap.size h0) (SgCS : Sta Z Z.heap s0 s8 "Z" (.int gCS)) (NgCS : ¬ (gCS = (0 : Int32))) (z1 : Arv Z h0 a2 z0 .char 3 [(.int x1), (.int x2), (.int x3)] iZ) (hu3 : own_c x1) (hc4 : ¬ ((255 : Int32) < x1)) (hu5 : own_c x2) (hc6 : ¬ ((255 : Int32) < x2)) (hu7 : own_c x3) (hc8 : (255 : Int32) < x3) (z2 : Sta Z Z.heap s1 s5 "Z" (.int 1)) (z3 : Sta Z Z.heap s1 s6 "I" iZ) (z4 : Sta Z Z.heap s1 s7 "I" (.int 8)) (z5 : Exa Z h0 a1 s0) (z6 : Fld Z h0 a1 s0 "coder" "B" iZ) (z7 : Z.heap.size ≤ a1) (z8 : Fld Z h0 a1 s0 "value" "[B" .null) :
    CtrN l Z mn5 jdk_42_method_149_code 6 none [] (⟨4, 2, 9, 57⟩ : Room) #[(.ref a1), (.ref a2), iZ, (.int 3), .null] h0 [a1] (fun v h => ∃ r1 : Addr, ∃ r2 : ClassId, h0.size ≤ r1 ∧ Fld Z h a1 s0 "coder" "B" (.int 1) ∧ Fld Z h a1 s0 "value" "[B" (.ref r1) ∧ Arv Z h r1 r2 .byte 6 [(.int (bH x1)), (.int (bL x1)), (.int (bH x2)), (.int (bL x2)), (.int (bH x3)), (.int (bL x3))] iZ ∧ v = none) := by
  refine CtrN.intro (L0 := #[vr a1, vr a2, vi 0, vi 3, .val .null, un]) (plainFor_of_name pn1) O0 (own_entry rfl) ?_
  intro p e s m below meth c T0 hy hml hret hlk hnm W0
  refine o_aloadN W0 1 (hb hy d3_0) rfl rfl rfl ?_
  refine o_initO W0 (w16 hw) (w17 hw) (w18 hw) (by rw [hml]; rfl) 4 (hb hy d3_1) rfl (by decide) 0 (by exact Nat.le_of_eq rfl) (by decide) ?_
  intro T1 W1
  refine o_iloadN W1 5 (hb hy d3_4) rfl rfl <| o_ifY W1 27 (hb hy d3_5) (XT.i0_ne_t (by decide)) (by decide) rfl ?_
  refine o_getS W1 (w48 hw) Via.refl (SgCS.ext W1.ox) 30 (hb hy d3_27) rfl ?_
  intro T2 W2
  refine o_ifN W2 33 (hb hy d3_30) (XT.i0_eq_f NgCS) rfl <| o_aloadN W2 34 (hb hy d3_33) rfl rfl rfl <| o_iloadN W2 35 (hb hy d3_34) rfl rfl <| o_iloadN W2 36 (hb hy d3_35) rfl rfl ?_
  refine o_staticC W2 (w71 hw) (w72 hw) (w73 hw) (w74 hw) (by decide) (rm112 l hw a2 z0 x1 x2 x3 h0 W2.old z1 hu3 hc4 hu5 hc6 hu7 hc8 z2 z3 z4) 0 2 9 (by decide) (by rw [hml]; rfl) (lenOf pd6 rfl) [] rfl rfl 39 (hb hy d3_36) rfl rfl rfl all0 tri ?_
  intro v9 T9 h9 lo9 W9 K9 q9
  obtain ⟨r1_9, r2_9, P9_0, P9_1, rfl⟩ := q9.2.2
  show Gl _ _ _ _ _ _ _ _ [(.ref r1_9)]
  refine o_astore W9 (L' := #[vr a1, vr a2, vi 0, vi 3, .val .null, vr r1_9]) 41 (hb hy d3_39) rfl rfl rfl <| o_aloadN W9 42 (hb hy d3_41) rfl rfl rfl <| o_aload W9 44 (hb hy d3_42) rfl rfl rfl <| o_iloadN W9 45 (hb hy d3_44) rfl rfl ?_
  refine o_staticC W9 (w78 hw) (w79 hw) (w73 hw) (w80 hw) (by decide) (rm113 l hw r1_9 r2_9 x1 x2 x3 h9 W9.old P9_1) 1 2 9 (by decide) (by rw [hml]; rfl) (lenOf pd7 rfl) [(.ref a1)] rfl rfl 48 (hb hy d3_45) rfl rfl rfl all0 tri ?_
  intro v10 T10 h10 lo10 W10 K10 q10
  obtain rfl := q10.2.2
  show Gl _ _ _ _ _ _ _ _ [(.int 1), (.ref a1)]
  have c11 := ((z5.keep K9).keep K10)
  have c12 := ((z6.keep K9 nin0).keep K10 nin0)
  refine o_putF W10 (w26 hw) Via.refl c12 c11 (Or.inr ⟨(w22 hw), rfl, hnm⟩) (w7 hw) (ty := .byte) (v' := (.int 1)) (by decide) rfl (by decide) z7 m0 tri 51 (hb hy d3_48) rfl ?_
  intro T13 h13 lo13 W13 R13
  have F13 := c12.same R13
  refine o_aloadN W13 52 (hb hy d3_51) rfl rfl rfl <| o_aload W13 54 (hb hy d3_52) rfl rfl rfl ?_
  have c14 := (c11.wr R13)
  have c15 := (((z8.keep K9 nin0).keep K10 nin0).other R13 (Or.inr (slot_ne (Or.inr (w21 hw)) (Or.inr (w22 hw)) (by decide) (t := (.array .byte)) (t' := .byte) (by decide) (by decide))))
  refine o_putF W13 (w25 hw) Via.refl c15 c14 (Or.inr ⟨(w21 hw), rfl, hnm⟩) (w7 hw) (ty := (.array .byte)) (v' := (.ref r1_9)) (by decide) rfl rfl z7 m0 tri 57 (hb hy d3_54) rfl ?_
  intro T16 h16 lo16 W16 R16
  have F16 := c15.same R16
  have c17 := (F13.other R16 (Or.inr (slot_ne (Or.inr (w22 hw)) (Or.inr (w21 hw)) (by decide) (t := .byte) (t' := (.array .byte)) (by decide) (by decide))))
  have c18 := (c14.wr R16)
  have c19 := (((P9_1.keep K10 nin0).other R13 (own_ne' z5.lt P9_0)).other R16 (own_ne' z5.lt P9_0))
  exact o_ret0 W16 hlk hret (hb hy d3_57) (by decide) (by decide) ⟨r1_9, r2_9, (Nat.le_trans W2.keep.1 P9_0), c17, F16, c19, rfl⟩
theorem rm115 (l : Launch) {Z a0} (hw : HW Z a0) (a1 a2 : Addr) (z0 : ClassId) (x1 x2 x3 : Int32) (h0 : Heap) (O0 : Old Z Z.heap.size h0) (z1 : Fld Z h0 a1 s0 "value" "[B" (.ref a2)) (z2 : Arv Z h0 a2 z0 .byte 6 [(.int (bH x1)), (.int (bL x1)), (.int (bH x2)), (.int (bL x2)), (.int (bH x3)), (.int (bL x3))] iZ) :
    CtrN l Z mn0 jdk_42_method_55_code 1 (some .boolean) [] (⟨0, 0, 0, 0⟩ : Room) #[(.ref a1)] h0 [] (fun v h => v = some iZ) := by
  refine CtrN.intro (L0 := #[vr a1]) (plainFor_of_name pn1) O0 (own_entry rfl) ?_
  intro p e s m below meth c T0 hy hml hret hlk hnm W0
  refine o_aloadN W0 1 (hb hy d6_0) rfl rfl rfl ?_
  refine o_getF W0 (w25 hw) Via.refl z1 4 (hb hy d6_1) rfl ?_
  intro T1 W1
  refine o_len W1 z2 5 (hb hy d6_4) rfl <| o_ifY W1 12 (hb hy d6_5) (XT.i0_ne_t (by decide)) (by decide) rfl <| o_iconst W1 (v := 0) 13 (hb hy d6_12) rfl rfl ?_
  exact o_retN W1 hlk (t := .boolean) hret (by simp) (z' := (0 : Int32)) (by decide) (hb hy d6_13) (by decide) (by decide) rfl
theorem rm116 (l : Launch) {Z a0} (hw : HW Z a0) (gCS : Int32) (a1 a2 : Addr) (z0 : ClassId) (x1 x2 x3 : Int32) (h0 : Heap) (O0 : Old Z Z.heap.size h0) (z1 : Fld Z h0 a1 s0 "value" "[B" (.ref a2)) (z2 : Arv Z h0 a2 z0 .byte 6 [(.int (bH x1)), (.int (bL x1)), (.int (bH x2)), (.int (bL x2)), (.int (bH x3)), (.int (bL x3))] iZ) (z3 : Exa Z h0 a1 s0) (SgCS : Sta Z Z.heap s0 s8 "Z" (.int gCS)) (NgCS : ¬ (gCS = (0 : Int32))) (z4 : Fld Z h0 a1 s0 "coder" "B" (.int 1)) :
    CtrN l Z mn1 jdk_42_method_54_code 1 (some .int) [] (⟨1, 0, 0, 14⟩ : Room) #[(.ref a1)] h0 [] (fun v h => v = some (.int 3)) := by
  refine CtrN.intro (L0 := #[vr a1]) (plainFor_of_name pn1) O0 (own_entry rfl) ?_
  intro p e s m below meth c T0 hy hml hret hlk hnm W0
  refine o_aloadN W0 1 (hb hy d7_0) rfl rfl rfl ?_
  refine o_getF W0 (w25 hw) Via.refl z1 4 (hb hy d7_1) rfl ?_
  intro T1 W1
  refine o_len W1 z2 5 (hb hy d7_4) rfl <| o_aloadN W1 6 (hb hy d7_5) rfl rfl rfl ?_
  refine o_virtualC W1 (w43 hw) (w44 hw) (o_nf W1 rfl (w46 hw)) (w46 hw) (w45 hw) (by decide) z3 (w47 hw) (w8 hw) (rm30 l hw gCS a1 h0 W1.old SgCS NgCS z4) 1 0 0 (by decide) (by rw [hml]; rfl) (lenOf pd8 rfl) [(.int 6)] rfl rfl 9 (hb hy d7_6) rfl rfl rfl all0 tri ?_
  intro v2 T2 h2 lo2 W2 K2 q2
  obtain rfl := q2.2.2
  show Gl _ _ _ _ _ _ _ _ [(.int 1), (.int 6)]
  refine o_ishr W2 (v := 3) 10 (hb hy d7_9) (by decide) rfl ?_
  exact o_retI W2 hlk hret (hb hy d7_10) (by decide) (by decide) rfl
theorem rm117 (l : Launch) {Z a0} (hw : HW Z a0) (a1 : Addr) (z0 : ClassId) (x1 x2 x3 : Int32) (h0 : Heap) (O0 : Old Z Z.heap.size h0) (z1 : Arv Z h0 a1 z0 .byte 6 [(.int (bH x1)), (.int (bL x1)), (.int (bH x2)), (.int (bL x2)), (.int (bH x3)), (.int (bL x3))] iZ) :
    CtrN l Z mn21 jdk_52_method_6_code 1 (some .int) [] (⟨0, 0, 0, 0⟩ : Room) #[(.ref a1)] h0 [] (fun v h => v = some (.int 3)) := by
  refine CtrN.intro (L0 := #[vr a1]) (plainFor_of_name pn3) O0 (own_entry rfl) ?_
  intro p e s m below meth c T0 hy hml hret hlk hnm W0
  refine o_aloadN W0 1 (hb hy d25_0) rfl rfl rfl <| o_len W0 z1 2 (hb hy d25_1) rfl <| o_iconst W0 (v := 1) 3 (hb hy d25_2) rfl rfl <| o_ishr W0 (v := 3) 4 (hb hy d25_3) (by decide) rfl ?_
  exact o_retI W0 hlk hret (hb hy d25_4) (by decide) (by decide) rfl
theorem rm118 (l : Launch) {Z a0} (hw : HW Z a0) (gF : Value) (a1 : Addr) (z0 : ClassId) (x1 x2 x3 : Int32) (h0 : Heap) (O0 : Old Z Z.heap.size h0) (z1 : Arv Z h0 a1 z0 .byte 6 [(.int (bH x1)), (.int (bL x1)), (.int (bH x2)), (.int (bL x2)), (.int (bH x3)), (.int (bL x3))] iZ) (SgF : Sta Z Z.heap s2 s3 s4 gF) (NgF : gF.isRef = true) :
    CtrN l Z mn22 jdk_52_method_91_code 2 none [] (⟨2, 0, 0, 27⟩ : Room) #[iZ, (.ref a1)] h0 [] (fun v h => v = none) := by
  refine CtrN.intro (L0 := #[vi 0, vr a1]) (plainFor_of_name pn3) O0 (own_entry rfl) ?_
  intro p e s m below meth c T0 hy hml hret hlk hnm W0
  refine o_iloadN W0 1 (hb hy d24_0) rfl rfl <| o_aloadN W0 2 (hb hy d24_1) rfl rfl rfl ?_
  refine o_staticC W0 (w109 hw) (w110 hw) (w73 hw) (w111 hw) (by decide) (rm117 l hw a1 z0 x1 x2 x3 h0 W0.old z1) 1 0 0 (by decide) (by rw [hml]; rfl) (lenOf pd15 rfl) [iZ] rfl rfl 5 (hb hy d24_2) rfl rfl rfl all0 tri ?_
  intro v1 T1 h1 lo1 W1 K1 q1
  obtain rfl := q1.2.2
  show Gl _ _ _ _ _ _ _ _ [(.int 3), iZ]
  refine o_staticC W1 (w112 hw) (w64 hw) (w8 hw) (w65 hw) (by decide) (rm91 l hw gF h1 W1.old SgF NgF) 0 0 0 (by decide) (by rw [hml]; rfl) (lenOf pd10 rfl) [] rfl rfl 8 (hb hy d24_5) rfl rfl rfl all0 tri ?_
  intro v2 T2 h2 lo2 W2 K2 q2
  obtain rfl := q2.2.2
  show Gl _ _ _ _ _ _ _ _ []
  exact o_ret0 W2 hlk hret (hb hy d24_8) (by decide) (by decide) rfl
theorem rm119 (l : Launch) {Z a0} (hw : HW Z a0) (a1 : Addr) (z0 : ClassId) (x1 x2 x3 : Int32) (h0 : Heap) (O0 : Old Z Z.heap.size h0) (z1 : Sta Z Z.heap s1 s5 "Z" (.int 1)) (z2 : Arv Z h0 a1 z0 .byte 6 [(.int (bH x1)), (.int (bL x1)), (.int (bH x2)), (.int (bL x2)), (.int (bH x3)), (.int (bL x3))] iZ) (z3 : Sta Z Z.heap s1 s6 "I" iZ) (z4 : Sta Z Z.heap s1 s7 "I" (.int 8)) (hu4 : own_c x1) :
    CtrN l Z mn20 jdk_52_method_5_code 2 (some .char) [] (⟨0, 0, 0, 0⟩ : Room) #[(.ref a1), iZ] h0 [] (fun v h => v = some (.int x1)) := by
  refine CtrN.intro (L0 := #[vr a1, vi 0]) (plainFor_of_name pn3) O0 (own_entry rfl) ?_
  intro p e s m below meth c T0 hy hml hret hlk hnm W0
  refine o_getS W0 (w97 hw) Via.refl (z1.ext W0.ox) 3 (hb hy d22_0) rfl ?_
  intro T1 W1
  refine o_ifY W1 28 (hb hy d22_3) (XT.i0_ne_t (by decide)) (by decide) rfl <| o_iloadN W1 29 (hb hy d22_28) rfl rfl <| o_iconst W1 (v := 1) 30 (hb hy d22_29) rfl rfl <| o_ishl W1 (v := 0) 31 (hb hy d22_30) (by decide) rfl <| o_istoreN W1 (L' := #[vr a1, vi 0]) 32 (hb hy d22_31) rfl rfl <| o_aloadN W1 33 (hb hy d22_32) rfl rfl rfl ?_
  refine o_iloadN W1 34 (hb hy d22_33) rfl rfl <| o_iinc W1 (v := 1) (L' := #[vr a1, vi 1]) 37 (hb hy d22_34) rfl (by decide) rfl rfl <| o_baload W1 z2 (x := (bH x1)) (i := 0) (by decide) (by decide) (by decide) rfl 38 (hb hy d22_37) rfl <| o_sipush W1 (v := 255) 41 (hb hy d22_38) (by decide) rfl <| o_iand W1 (v := ((bH x1) &&& 255)) 42 (hb hy d22_41) rfl rfl ?_
  refine o_getS W1 (w98 hw) Via.refl (z3.ext W1.ox) 45 (hb hy d22_42) rfl ?_
  intro T2 W2
  refine o_ishl W2 (v := (((bH x1) &&& 255) <<< ((0 : Int32) &&& 31))) 46 (hb hy d22_45) rfl rfl <| o_aloadN W2 47 (hb hy d22_46) rfl rfl rfl <| o_iloadN W2 48 (hb hy d22_47) rfl rfl <| o_baload W2 z2 (x := (bL x1)) (i := 1) (by decide) (by decide) (by decide) rfl 49 (hb hy d22_48) rfl <| o_sipush W2 (v := 255) 52 (hb hy d22_49) (by decide) rfl <| o_iand W2 (v := ((bL x1) &&& 255)) 53 (hb hy d22_52) rfl rfl ?_
  refine o_getS W2 (w99 hw) Via.refl (z4.ext W2.ox) 56 (hb hy d22_53) rfl ?_
  intro T3 W3
  refine o_ishl W3 (v := (((bL x1) &&& 255) <<< ((8 : Int32) &&& 31))) 57 (hb hy d22_56) rfl rfl <| o_ior W3 (v := ((((bH x1) &&& 255) <<< ((0 : Int32) &&& 31)) ||| (((bL x1) &&& 255) <<< ((8 : Int32) &&& 31)))) 58 (hb hy d22_57) rfl rfl <| o_i2c W3 (v := x1) 59 (hb hy d22_58) (own_join hu4) rfl ?_
  exact o_retN W3 hlk (t := .char) hret (by simp) (z' := x1) (own_i2cc hu4) (hb hy d22_59) (by decide) (by decide) rfl
theorem rm120 (l : Launch) {Z a0} (hw : HW Z a0) (gF : Value) (a1 : Addr) (z0 : ClassId) (x1 x2 x3 : Int32) (h0 : Heap) (O0 : Old Z Z.heap.size h0) (z1 : Arv Z h0 a1 z0 .byte 6 [(.int (bH x1)), (.int (bL x1)), (.int (bH x2)), (.int (bL x2)), (.int (bH x3)), (.int (bL x3))] iZ) (SgF : Sta Z Z.heap s2 s3 s4 gF) (NgF : gF.isRef = true) (z2 : Sta Z Z.heap s1 s5 "Z" (.int 1)) (z3 : Sta Z Z.heap s1 s6 "I" iZ) (z4 : Sta Z Z.heap s1 s7 "I" (.int 8)) (hu3 : own_c x1) :
    CtrN l Z mn23 jdk_52_method_83_code 2 (some .char) [] (⟨3, 0, 0, 40⟩ : Room) #[(.ref a1), iZ] h0 [] (fun v h => v = some (.int x1)) := by
  refine CtrN.intro (L0 := #[vr a1, vi 0]) (plainFor_of_name pn3) O0 (own_entry rfl) ?_
  intro p e s m below meth c T0 hy hml hret hlk hnm W0
  refine o_iloadN W0 1 (hb hy d23_0) rfl rfl <| o_aloadN W0 2 (hb hy d23_1) rfl rfl rfl ?_
  refine o_staticC W0 (w106 hw) (w107 hw) (w73 hw) (w108 hw) (by decide) (rm118 l hw gF a1 z0 x1 x2 x3 h0 W0.old z1 SgF NgF) 0 0 0 (by decide) (by rw [hml]; rfl) (lenOf pd16 rfl) [] rfl rfl 5 (hb hy d23_2) rfl rfl rfl all0 tri ?_
  intro v1 T1 h1 lo1 W1 K1 q1
  obtain rfl := q1.2.2
  show Gl _ _ _ _ _ _ _ _ []
  refine o_aloadN W1 6 (hb hy d23_5) rfl rfl rfl <| o_iloadN W1 7 (hb hy d23_6) rfl rfl ?_
  have c2 := (z1.keep K1 nin0)
  refine o_staticC W1 (w100 hw) (w101 hw) (w73 hw) (w102 hw) (by decide) (rm119 l hw a1 z0 x1 x2 x3 h1 W1.old z2 c2 z3 z4 hu3) 0 0 0 (by decide) (by rw [hml]; rfl) (lenOf pd11 rfl) [] rfl rfl 10 (hb hy d23_7) rfl rfl rfl all0 tri ?_
  intro v4 T4 h4 lo4 W4 K4 q4
  obtain rfl := q4.2.2
  show Gl _ _ _ _ _ _ _ _ [(.int x1)]
  exact o_retN W4 hlk (t := .char) hret (by simp) (z' := x1) (own_i2cc hu3) (hb hy d23_10) (by decide) (by decide) rfl
theorem rm121 (l : Launch) {Z a0} (hw : HW Z a0) (gCS : Int32) (gF : Value) (a1 a2 : Addr) (z0 : ClassId) (x1 x2 x3 : Int32) (h0 : Heap) (O0 : Old Z Z.heap.size h0) (z1 : Exa Z h0 a1 s0) (SgCS : Sta Z Z.heap s0 s8 "Z" (.int gCS)) (NgCS : ¬ (gCS = (0 : Int32))) (z2 : Fld Z h0 a1 s0 "coder" "B" (.int 1)) (z3 : Fld Z h0 a1 s0 "value" "[B" (.ref a2)) (z4 : Arv Z h0 a2 z0 .byte 6 [(.int (bH x1)), (.int (bL x1)), (.int (bH x2)), (.int (bL x2)), (.int (bH x3)), (.int (bL x3))] iZ) (SgF : Sta Z Z.heap s2 s3 s4 gF) (NgF : gF.isRef = true) (z5 : Sta Z Z.heap s1 s5 "Z" (.int 1)) (z6 : Sta Z Z.heap s1 s6 "I" iZ) (z7 : Sta Z Z.heap s1 s7 "I" (.int 8)) (hu5 : own_c x1) :
    CtrN l Z mn2 jdk_42_method_56_code 2 (some .char) [] (⟨5, 0, 0, 70⟩ : Room) #[(.ref a1), iZ] h0 [] (fun v h => v = some (.int x1)) := by
  refine CtrN.intro (L0 := #[vr a1, vi 0]) (plainFor_of_name pn1) O0 (own_entry rfl) ?_
  intro p e s m below meth c T0 hy hml hret hlk hnm W0
  refine o_aloadN W0 1 (hb hy d9_0) rfl rfl rfl ?_
  refine o_virtualC W0 (w54 hw) (w55 hw) (o_nf W0 rfl (w57 hw)) (w57 hw) (w56 hw) (by decide) z1 (w58 hw) (w8 hw) (rm32 l hw gCS a1 h0 W0.old SgCS NgCS z2) 0 0 0 (by decide) (by rw [hml]; rfl) (lenOf pd3 rfl) [] rfl rfl 4 (hb hy d9_1) rfl rfl rfl all0 tri ?_
  intro v1 T1 h1 lo1 W1 K1 q1
  obtain rfl := q1.2.2
  show Gl _ _ _ _ _ _ _ _ [iZ]
  refine o_ifY W1 16 (hb hy d9_4) (XT.i0_eq_t (by decide)) (by decide) rfl <| o_aloadN W1 17 (hb hy d9_16) rfl rfl rfl ?_
  have c2 := (z3.keep K1 nin0)
  refine o_getF W1 (w25 hw) Via.refl c2 20 (hb hy d9_17) rfl ?_
  intro T3 W3
  refine o_iloadN W3 21 (hb hy d9_20) rfl rfl ?_
  have c4 := (z4.keep K1 nin0)
  refine o_staticC W3 (w103 hw) (w104 hw) (w73 hw) (w105 hw) (by decide) (rm120 l hw gF a2 z0 x1 x2 x3 h1 W3.old c4 SgF NgF z5 z6 z7 hu5) 0 0 0 (by decide) (by rw [hml]; rfl) (lenOf pd11 rfl) [] rfl rfl 24 (hb hy d9_21) rfl rfl rfl all0 tri ?_
  intro v6 T6 h6 lo6 W6 K6 q6
  obtain rfl := q6.2.2
  show Gl _ _ _ _ _ _ _ _ [(.int x1)]
  exact o_retN W6 hlk (t := .char) hret (by simp) (z' := x1) (own_i2cc hu5) (hb hy d9_24) (by decide) (by decide) rfl
theorem rm122 (l : Launch) {Z a0} (hw : HW Z a0) (gF : Value) (a1 : Addr) (z0 : ClassId) (x1 x2 x3 : Int32) (h0 : Heap) (O0 : Old Z Z.heap.size h0) (z1 : Arv Z h0 a1 z0 .byte 6 [(.int (bH x1)), (.int (bL x1)), (.int (bH x2)), (.int (bL x2)), (.int (bH x3)), (.int (bL x3))] iZ) (SgF : Sta Z Z.heap s2 s3 s4 gF) (NgF : gF.isRef = true) :
    CtrN l Z mn22 jdk_52_method_91_code 2 none [] (⟨2, 0, 0, 27⟩ : Room) #[(.int 1), (.ref a1)] h0 [] (fun v h => v = none) := by
  refine CtrN.intro (L0 := #[vi 1, vr a1]) (plainFor_of_name pn3) O0 (own_entry rfl) ?_
  intro p e s m below meth c T0 hy hml hret hlk hnm W0
  refine o_iloadN W0 1 (hb hy d24_0) rfl rfl <| o_aloadN W0 2 (hb hy d24_1) rfl rfl rfl ?_
  refine o_staticC W0 (w109 hw) (w110 hw) (w73 hw) (w111 hw) (by decide) (rm117 l hw a1 z0 x1 x2 x3 h0 W0.old z1) 1 0 0 (by decide) (by rw [hml]; rfl) (lenOf pd15 rfl) [(.int 1)] rfl rfl 5 (hb hy d24_2) rfl rfl rfl all0 tri ?_
  intro v1 T1 h1 lo1 W1 K1 q1
  obtain rfl := q1.2.2
  show Gl _ _ _ _ _ _ _ _ [(.int 3), (.int 1)]
  refine o_staticC W1 (w112 hw) (w64 hw) (w8 hw) (w65 hw) (by decide) (rm96 l hw gF h1 W1.old SgF NgF) 0 0 0 (by decide) (by rw [hml]; rfl) (lenOf pd10 rfl) [] rfl rfl 8 (hb hy d24_5) rfl rfl rfl all0 tri ?_
  intro v2 T2 h2 lo2 W2 K2 q2
  obtain rfl := q2.2.2
  show Gl _ _ _ _ _ _ _ _ []
  exact o_ret0 W2 hlk hret (hb hy d24_8) (by decide) (by decide) rfl
theorem rm123 (l : Launch) {Z a0} (hw : HW Z a0) (a1 : Addr) (z0 : ClassId) (x1 x2 x3 : Int32) (h0 : Heap) (O0 : Old Z Z.heap.size h0) (z1 : Sta Z Z.heap s1 s5 "Z" (.int 1)) (z2 : Arv Z h0 a1 z0 .byte 6 [(.int (bH x1)), (.int (bL x1)), (.int (bH x2)), (.int (bL x2)), (.int (bH x3)), (.int (bL x3))] iZ) (z3 : Sta Z Z.heap s1 s6 "I" iZ) (z4 : Sta Z Z.heap s1 s7 "I" (.int 8)) (hu4 : own_c x2) :
    CtrN l Z mn20 jdk_52_method_5_code 2 (some .char) [] (⟨0, 0, 0, 0⟩ : Room) #[(.ref a1), (.int 1)] h0 [] (fun v h => v = some (.int x2)) := by
  refine CtrN.intro (L0 := #[vr a1, vi 1]) (plainFor_of_name pn3) O0 (own_entry rfl) ?_
  intro p e s m below meth c T0 hy hml hret hlk hnm W0
  refine o_getS W0 (w97 hw) Via.refl (z1.ext W0.ox) 3 (hb hy d22_0) rfl ?_
  intro T1 W1
  refine o_ifY W1 28 (hb hy d22_3) (XT.i0_ne_t (by decide)) (by decide) rfl <| o_iloadN W1 29 (hb hy d22_28) rfl rfl <| o_iconst W1 (v := 1) 30 (hb hy d22_29) rfl rfl <| o_ishl W1 (v := 2) 31 (hb hy d22_30) (by decide) rfl <| o_istoreN W1 (L' := #[vr a1, vi 2]) 32 (hb hy d22_31) rfl rfl <| o_aloadN W1 33 (hb hy d22_32) rfl rfl rfl ?_
  refine o_iloadN W1 34 (hb hy d22_33) rfl rfl <| o_iinc W1 (v := 3) (L' := #[vr a1, vi 3]) 37 (hb hy d22_34) rfl (by decide) rfl rfl <| o_baload W1 z2 (x := (bH x2)) (i := 2) (by decide) (by decide) (by decide) rfl 38 (hb hy d22_37) rfl <| o_sipush W1 (v := 255) 41 (hb hy d22_38) (by decide) rfl <| o_iand W1 (v := ((bH x2) &&& 255)) 42 (hb hy d22_41) rfl rfl ?_
  refine o_getS W1 (w98 hw) Via.refl (z3.ext W1.ox) 45 (hb hy d22_42) rfl ?_
  intro T2 W2
  refine o_ishl W2 (v := (((bH x2) &&& 255) <<< ((0 : Int32) &&& 31))) 46 (hb hy d22_45) rfl rfl <| o_aloadN W2 47 (hb hy d22_46) rfl rfl rfl <| o_iloadN W2 48 (hb hy d22_47) rfl rfl <| o_baload W2 z2 (x := (bL x2)) (i := 3) (by decide) (by decide) (by decide) rfl 49 (hb hy d22_48) rfl <| o_sipush W2 (v := 255) 52 (hb hy d22_49) (by decide) rfl <| o_iand W2 (v := ((bL x2) &&& 255)) 53 (hb hy d22_52) rfl rfl ?_
  refine o_getS W2 (w99 hw) Via.refl (z4.ext W2.ox) 56 (hb hy d22_53) rfl ?_
  intro T3 W3
  refine o_ishl W3 (v := (((bL x2) &&& 255) <<< ((8 : Int32) &&& 31))) 57 (hb hy d22_56) rfl rfl <| o_ior W3 (v := ((((bH x2) &&& 255) <<< ((0 : Int32) &&& 31)) ||| (((bL x2) &&& 255) <<< ((8 : Int32) &&& 31)))) 58 (hb hy d22_57) rfl rfl <| o_i2c W3 (v := x2) 59 (hb hy d22_58) (own_join hu4) rfl ?_
  exact o_retN W3 hlk (t := .char) hret (by simp) (z' := x2) (own_i2cc hu4) (hb hy d22_59) (by decide) (by decide) rfl
theorem rm124 (l : Launch) {Z a0} (hw : HW Z a0) (gF : Value) (a1 : Addr) (z0 : ClassId) (x1 x2 x3 : Int32) (h0 : Heap) (O0 : Old Z Z.heap.size h0) (z1 : Arv Z h0 a1 z0 .byte 6 [(.int (bH x1)), (.int (bL x1)), (.int (bH x2)), (.int (bL x2)), (.int (bH x3)), (.int (bL x3))] iZ) (SgF : Sta Z Z.heap s2 s3 s4 gF) (NgF : gF.isRef = true) (z2 : Sta Z Z.heap s1 s5 "Z" (.int 1)) (z3 : Sta Z Z.heap s1 s6 "I" iZ) (z4 : Sta Z Z.heap s1 s7 "I" (.int 8)) (hu3 : own_c x2) :
    CtrN l Z mn23 jdk_52_method_83_code 2 (some .char) [] (⟨3, 0, 0, 40⟩ : Room) #[(.ref a1), (.int 1)] h0 [] (fun v h => v = some (.int x2)) := by
  refine CtrN.intro (L0 := #[vr a1, vi 1]) (plainFor_of_name pn3) O0 (own_entry rfl) ?_
  intro p e s m below meth c T0 hy hml hret hlk hnm W0
  refine o_iloadN W0 1 (hb hy d23_0) rfl rfl <| o_aloadN W0 2 (hb hy d23_1) rfl rfl rfl ?_
  refine o_staticC W0 (w106 hw) (w107 hw) (w73 hw) (w108 hw) (by decide) (rm122 l hw gF a1 z0 x1 x2 x3 h0 W0.old z1 SgF NgF) 0 0 0 (by decide) (by rw [hml]; rfl) (lenOf pd16 rfl) [] rfl rfl 5 (hb hy d23_2) rfl rfl rfl all0 tri ?_
  intro v1 T1 h1 lo1 W1 K1 q1
  obtain rfl := q1.2.2
  show Gl _ _ _ _ _ _ _ _ []
  refine o_aloadN W1 6 (hb hy d23_5) rfl rfl rfl <| o_iloadN W1 7 (hb hy d23_6) rfl rfl ?_
  have c2 := (z1.keep K1 nin0)
  refine o_staticC W1 (w100 hw) (w101 hw) (w73 hw) (w102 hw) (by decide) (rm123 l hw a1 z0 x1 x2 x3 h1 W1.old z2 c2 z3 z4 hu3) 0 0 0 (by decide) (by rw [hml]; rfl) (lenOf pd11 rfl) [] rfl rfl 10 (hb hy d23_7) rfl rfl rfl all0 tri ?_
  intro v4 T4 h4 lo4 W4 K4 q4
  obtain rfl := q4.2.2
  show Gl _ _ _ _ _ _ _ _ [(.int x2)]
  exact o_retN W4 hlk (t := .char) hret (by simp) (z' := x2) (own_i2cc hu3) (hb hy d23_10) (by decide) (by decide) rfl
theorem rm125 (l : Launch) {Z a0} (hw : HW Z a0) (gCS : Int32) (gF : Value) (a1 a2 : Addr) (z0 : ClassId) (x1 x2 x3 : Int32) (h0 : Heap) (O0 : Old Z Z.heap.size h0) (z1 : Exa Z h0 a1 s0) (SgCS : Sta Z Z.heap s0 s8 "Z" (.int gCS)) (NgCS : ¬ (gCS = (0 : Int32))) (z2 : Fld Z h0 a1 s0 "coder" "B" (.int 1)) (z3 : Fld Z h0 a1 s0 "value" "[B" (.ref a2)) (z4 : Arv Z h0 a2 z0 .byte 6 [(.int (bH x1)), (.int (bL x1)), (.int (bH x2)), (.int (bL x2)), (.int (bH x3)), (.int (bL x3))] iZ) (SgF : Sta Z Z.heap s2 s3 s4 gF) (NgF : gF.isRef = true) (z5 : Sta Z Z.heap s1 s5 "Z" (.int 1)) (z6 : Sta Z Z.heap s1 s6 "I" iZ) (z7 : Sta Z Z.heap s1 s7 "I" (.int 8)) (hu5 : own_c x2) :
    CtrN l Z mn2 jdk_42_method_56_code 2 (some .char) [] (⟨5, 0, 0, 70⟩ : Room) #[(.ref a1), (.int 1)] h0 [] (fun v h => v = some (.int x2)) := by
  refine CtrN.intro (L0 := #[vr a1, vi 1]) (plainFor_of_name pn1) O0 (own_entry rfl) ?_
  intro p e s m below meth c T0 hy hml hret hlk hnm W0
  refine o_aloadN W0 1 (hb hy d9_0) rfl rfl rfl ?_
  refine o_virtualC W0 (w54 hw) (w55 hw) (o_nf W0 rfl (w57 hw)) (w57 hw) (w56 hw) (by decide) z1 (w58 hw) (w8 hw) (rm32 l hw gCS a1 h0 W0.old SgCS NgCS z2) 0 0 0 (by decide) (by rw [hml]; rfl) (lenOf pd3 rfl) [] rfl rfl 4 (hb hy d9_1) rfl rfl rfl all0 tri ?_
  intro v1 T1 h1 lo1 W1 K1 q1
  obtain rfl := q1.2.2
  show Gl _ _ _ _ _ _ _ _ [iZ]
  refine o_ifY W1 16 (hb hy d9_4) (XT.i0_eq_t (by decide)) (by decide) rfl <| o_aloadN W1 17 (hb hy d9_16) rfl rfl rfl ?_
  have c2 := (z3.keep K1 nin0)
  refine o_getF W1 (w25 hw) Via.refl c2 20 (hb hy d9_17) rfl ?_
  intro T3 W3
  refine o_iloadN W3 21 (hb hy d9_20) rfl rfl ?_
  have c4 := (z4.keep K1 nin0)
  refine o_staticC W3 (w103 hw) (w104 hw) (w73 hw) (w105 hw) (by decide) (rm124 l hw gF a2 z0 x1 x2 x3 h1 W3.old c4 SgF NgF z5 z6 z7 hu5) 0 0 0 (by decide) (by rw [hml]; rfl) (lenOf pd11 rfl) [] rfl rfl 24 (hb hy d9_21) rfl rfl rfl all0 tri ?_
  intro v6 T6 h6 lo6 W6 K6 q6
  obtain rfl := q6.2.2
  show Gl _ _ _ _ _ _ _ _ [(.int x2)]
  exact o_retN W6 hlk (t := .char) hret (by simp) (z' := x2) (own_i2cc hu5) (hb hy d9_24) (by decide) (by decide) rfl
theorem rm126 (l : Launch) {Z a0} (hw : HW Z a0) (gF : Value) (a1 : Addr) (z0 : ClassId) (x1 x2 x3 : Int32) (h0 : Heap) (O0 : Old Z Z.heap.size h0) (z1 : Arv Z h0 a1 z0 .byte 6 [(.int (bH x1)), (.int (bL x1)), (.int (bH x2)), (.int (bL x2)), (.int (bH x3)), (.int (bL x3))] iZ) (SgF : Sta Z Z.heap s2 s3 s4 gF) (NgF : gF.isRef = true) :
    CtrN l Z mn22 jdk_52_method_91_code 2 none [] (⟨2, 0, 0, 27⟩ : Room) #[(.int 2), (.ref a1)] h0 [] (fun v h => v = none) := by
  refine CtrN.intro (L0 := #[vi 2, vr a1]) (plainFor_of_name pn3) O0 (own_entry rfl) ?_
  intro p e s m below meth c T0 hy hml hret hlk hnm W0
  refine o_iloadN W0 1 (hb hy d24_0) rfl rfl <| o_aloadN W0 2 (hb hy d24_1) rfl rfl rfl ?_
  refine o_staticC W0 (w109 hw) (w110 hw) (w73 hw) (w111 hw) (by decide) (rm117 l hw a1 z0 x1 x2 x3 h0 W0.old z1) 1 0 0 (by decide) (by rw [hml]; rfl) (lenOf pd15 rfl) [(.int 2)] rfl rfl 5 (hb hy d24_2) rfl rfl rfl all0 tri ?_
  intro v1 T1 h1 lo1 W1 K1 q1
  obtain rfl := q1.2.2
  show Gl _ _ _ _ _ _ _ _ [(.int 3), (.int 2)]
  refine o_staticC W1 (w112 hw) (w64 hw) (w8 hw) (w65 hw) (by decide) (rm101 l hw gF h1 W1.old SgF NgF) 0 0 0 (by decide) (by rw [hml]; rfl) (lenOf pd10 rfl) [] rfl rfl 8 (hb hy d24_5) rfl rfl rfl all0 tri ?_
  intro v2 T2 h2 lo2 W2 K2 q2
  obtain rfl := q2.2.2
  show Gl _ _ _ _ _ _ _ _ []
  exact o_ret0 W2 hlk hret (hb hy d24_8) (by decide) (by decide) rfl
theorem rm127 (l : Launch) {Z a0} (hw : HW Z a0) (gF : Value) (a1 : Addr) (z0 : ClassId) (x1 x2 x3 : Int32) (h0 : Heap) (O0 : Old Z Z.heap.size h0) (z1 : Arv Z h0 a1 z0 .byte 6 [(.int (bH x1)), (.int (bL x1)), (.int (bH x2)), (.int (bL x2)), (.int (bH x3)), (.int (bL x3))] iZ) (SgF : Sta Z Z.heap s2 s3 s4 gF) (NgF : gF.isRef = true) (z2 : Sta Z Z.heap s1 s5 "Z" (.int 1)) (z3 : Sta Z Z.heap s1 s6 "I" iZ) (z4 : Sta Z Z.heap s1 s7 "I" (.int 8)) (hu3 : own_c x3) :
    CtrN l Z mn23 jdk_52_method_83_code 2 (some .char) [] (⟨3, 0, 0, 40⟩ : Room) #[(.ref a1), (.int 2)] h0 [] (fun v h => v = some (.int x3)) := by
  refine CtrN.intro (L0 := #[vr a1, vi 2]) (plainFor_of_name pn3) O0 (own_entry rfl) ?_
  intro p e s m below meth c T0 hy hml hret hlk hnm W0
  refine o_iloadN W0 1 (hb hy d23_0) rfl rfl <| o_aloadN W0 2 (hb hy d23_1) rfl rfl rfl ?_
  refine o_staticC W0 (w106 hw) (w107 hw) (w73 hw) (w108 hw) (by decide) (rm126 l hw gF a1 z0 x1 x2 x3 h0 W0.old z1 SgF NgF) 0 0 0 (by decide) (by rw [hml]; rfl) (lenOf pd16 rfl) [] rfl rfl 5 (hb hy d23_2) rfl rfl rfl all0 tri ?_
  intro v1 T1 h1 lo1 W1 K1 q1
  obtain rfl := q1.2.2
  show Gl _ _ _ _ _ _ _ _ []
  refine o_aloadN W1 6 (hb hy d23_5) rfl rfl rfl <| o_iloadN W1 7 (hb hy d23_6) rfl rfl ?_
  have c2 := (z1.keep K1 nin0)
  refine o_staticC W1 (w100 hw) (w101 hw) (w73 hw) (w102 hw) (by decide) (rm111 l hw a1 z0 x1 x2 x3 h1 W1.old z2 c2 z3 z4 hu3) 0 0 0 (by decide) (by rw [hml]; rfl) (lenOf pd11 rfl) [] rfl rfl 10 (hb hy d23_7) rfl rfl rfl all0 tri ?_
  intro v4 T4 h4 lo4 W4 K4 q4
  obtain rfl := q4.2.2
  show Gl _ _ _ _ _ _ _ _ [(.int x3)]
  exact o_retN W4 hlk (t := .char) hret (by simp) (z' := x3) (own_i2cc hu3) (hb hy d23_10) (by decide) (by decide) rfl
theorem rm128 (l : Launch) {Z a0} (hw : HW Z a0) (gCS : Int32) (gF : Value) (a1 a2 : Addr) (z0 : ClassId) (x1 x2 x3 : Int32) (h0 : Heap) (O0 : Old Z Z.heap.size h0) (z1 : Exa Z h0 a1 s0) (SgCS : Sta Z Z.heap s0 s8 "Z" (.int gCS)) (NgCS : ¬ (gCS = (0 : Int32))) (z2 : Fld Z h0 a1 s0 "coder" "B" (.int 1)) (z3 : Fld Z h0 a1 s0 "value" "[B" (.ref a2)) (z4 : Arv Z h0 a2 z0 .byte 6 [(.int (bH x1)), (.int (bL x1)), (.int (bH x2)), (.int (bL x2)), (.int (bH x3)), (.int (bL x3))] iZ) (SgF : Sta Z Z.heap s2 s3 s4 gF) (NgF : gF.isRef = true) (z5 : Sta Z Z.heap s1 s5 "Z" (.int 1)) (z6 : Sta Z Z.heap s1 s6 "I" iZ) (z7 : Sta Z Z.heap s1 s7 "I" (.int 8)) (hu5 : own_c x3) :
    CtrN l Z mn2 jdk_42_method_56_code 2 (some .char) [] (⟨5, 0, 0, 70⟩ : Room) #[(.ref a1), (.int 2)] h0 [] (fun v h => v = some (.int x3)) := by
  refine CtrN.intro (L0 := #[vr a1, vi 2]) (plainFor_of_name pn1) O0 (own_entry rfl) ?_
  intro p e s m below meth c T0 hy hml hret hlk hnm W0
  refine o_aloadN W0 1 (hb hy d9_0) rfl rfl rfl ?_
  refine o_virtualC W0 (w54 hw) (w55 hw) (o_nf W0 rfl (w57 hw)) (w57 hw) (w56 hw) (by decide) z1 (w58 hw) (w8 hw) (rm32 l hw gCS a1 h0 W0.old SgCS NgCS z2) 0 0 0 (by decide) (by rw [hml]; rfl) (lenOf pd3 rfl) [] rfl rfl 4 (hb hy d9_1) rfl rfl rfl all0 tri ?_
  intro v1 T1 h1 lo1 W1 K1 q1
  obtain rfl := q1.2.2
  show Gl _ _ _ _ _ _ _ _ [iZ]
  refine o_ifY W1 16 (hb hy d9_4) (XT.i0_eq_t (by decide)) (by decide) rfl <| o_aloadN W1 17 (hb hy d9_16) rfl rfl rfl ?_
  have c2 := (z3.keep K1 nin0)
  refine o_getF W1 (w25 hw) Via.refl c2 20 (hb hy d9_17) rfl ?_
  intro T3 W3
  refine o_iloadN W3 21 (hb hy d9_20) rfl rfl ?_
  have c4 := (z4.keep K1 nin0)
  refine o_staticC W3 (w103 hw) (w104 hw) (w73 hw) (w105 hw) (by decide) (rm127 l hw gF a2 z0 x1 x2 x3 h1 W3.old c4 SgF NgF z5 z6 z7 hu5) 0 0 0 (by decide) (by rw [hml]; rfl) (lenOf pd11 rfl) [] rfl rfl 24 (hb hy d9_21) rfl rfl rfl all0 tri ?_
  intro v6 T6 h6 lo6 W6 K6 q6
  obtain rfl := q6.2.2
  show Gl _ _ _ _ _ _ _ _ [(.int x3)]
  exact o_retN W6 hlk (t := .char) hret (by simp) (z' := x3) (own_i2cc hu5) (hb hy d9_24) (by decide) (by decide) rfl
theorem rm129 (l : Launch) {Z a0} (hw : HW Z a0) (a1 a2 : Addr) (z0 : ClassId) (x1 x2 x3 : Int32) (z1 : ClassId) (h0 : Heap) (O0 : Old Z Z.heap.size h0) (z2 : Arv Z h0 a1 z0 .char 3 [(.int x1), (.int x2), (.int x3)] iZ) (hu1 : own_c x1) (hc2 : ¬ ((255 : Int32) < x1)) (z3 : Arv Z h0 a2 z1 .byte 3 [iZ, iZ, iZ] iZ) (z4 : Z.heap.size ≤ a2) (z5 : a1 ≠ a2) (hu5 : own_c x2) (hc6 : (255 : Int32) < x2) :
    CtrN l Z mn8 jdk_52_method_21_code 7 (some .int) [] (⟨0, 0, 0, 0⟩ : Room) #[(.ref a1), iZ, (.ref a2), iZ, (.int 3)] h0 [a2] (fun v h => Arv Z h a2 z1 .byte 3 [(.int (bB x1)), iZ, iZ] iZ ∧ v = some (.int 1)) := by
  refine CtrN.intro (L0 := #[vr a1, vi 0, vr a2, vi 0, vi 3, un, un]) (plainFor_of_name pn3) O0 (own_entry rfl) ?_
  intro p e s m below meth c T0 hy hml hret hlk hnm W0
  refine o_iconst W0 (v := 0) 1 (hb hy d15_0) rfl rfl <| o_istore W0 (L' := #[vr a1, vi 0, vr a2, vi 0, vi 3, vi 0, un]) 3 (hb hy d15_1) rfl rfl <| o_iload W0 5 (hb hy d15_3) rfl rfl <| o_iload W0 7 (hb hy d15_5) rfl rfl <| o_icmpN W0 10 (hb hy d15_7) (XT.ii_ge_f (by decide)) rfl <| o_aloadN W0 11 (hb hy d15_10) rfl rfl rfl ?_
  refine o_iloadN W0 12 (hb hy d15_11) rfl rfl <| o_caload W0 z2 (x := x1) (i := 0) (by decide) (by decide) (by decide) rfl 13 (hb hy d15_12) rfl <| o_istore W0 (L' := #[vr a1, vi 0, vr a2, vi 0, vi 3, vi 0, vi x1]) 15 (hb hy d15_13) rfl rfl <| o_iload W0 17 (hb hy d15_15) rfl rfl <| o_sipush W0 (v := 255) 20 (hb hy d15_17) (by decide) rfl <| o_icmpY W0 26 (hb hy d15_20) (XT.ii_le_t (own_cb hu1 hc2).2) (by decide) rfl ?_
  refine o_aloadN W0 27 (hb hy d15_26) rfl rfl rfl <| o_iloadN W0 28 (hb hy d15_27) rfl rfl <| o_iload W0 30 (hb hy d15_28) rfl rfl <| o_i2b W0 (v := (bB x1)) 31 (hb hy d15_30) rfl rfl ?_
  refine o_stB W0 z3 (i := 0) (x' := (bB x1)) (by decide) (by decide) (by decide) (Nat.lt_of_sub_eq_succ rfl) (own_b8 _) (vs' := [(.int (bB x1)), iZ, iZ]) rfl z4 m0 tri 32 (hb hy d15_31) rfl ?_
  intro T3 h3 lo3 W3 R3 V3
  refine o_iinc W3 (v := 1) (L' := #[vr a1, vi 1, vr a2, vi 0, vi 3, vi 0, vi x1]) 35 (hb hy d15_32) rfl (by decide) rfl rfl <| o_iinc W3 (v := 1) (L' := #[vr a1, vi 1, vr a2, vi 1, vi 3, vi 0, vi x1]) 38 (hb hy d15_35) rfl (by decide) rfl rfl <| o_iinc W3 (v := 1) (L' := #[vr a1, vi 1, vr a2, vi 1, vi 3, vi 1, vi x1]) 41 (hb hy d15_38) rfl (by decide) rfl rfl <| o_goto W3 3 (hb hy d15_41) (by decide) rfl <| o_iload W3 5 (hb hy d15_3) rfl rfl <| o_iload W3 7 (hb hy d15_5) rfl rfl ?_
  refine o_icmpN W3 10 (hb hy d15_7) (XT.ii_ge_f (by decide)) rfl <| o_aloadN W3 11 (hb hy d15_10) rfl rfl rfl <| o_iloadN W3 12 (hb hy d15_11) rfl rfl ?_
  have c4 := (z2.other R3 z5)
  refine o_caload W3 c4 (x := x2) (i := 1) (by decide) (by decide) (by decide) rfl 13 (hb hy d15_12) rfl <| o_istore W3 (L' := #[vr a1, vi 1, vr a2, vi 1, vi 3, vi 1, vi x2]) 15 (hb hy d15_13) rfl rfl <| o_iload W3 17 (hb hy d15_15) rfl rfl <| o_sipush W3 (v := 255) 20 (hb hy d15_17) (by decide) rfl <| o_icmpN W3 23 (hb hy d15_20) (XT.ii_le_f hc6) rfl <| o_iload W3 25 (hb hy d15_23) rfl rfl ?_
  exact o_retI W3 hlk hret (hb hy d15_25) (by decide) (by decide) ⟨V3, rfl⟩
theorem rm130 (l : Launch) {Z a0} (hw : HW Z a0) (a1 : Addr) (z0 : ClassId) (x1 x2 x3 : Int32) (h0 : Heap) (O0 : Old Z Z.heap.size h0) (z1 : Arv Z h0 a1 z0 .char 3 [(.int x1), (.int x2), (.int x3)] iZ) (hu3 : own_c x1) (hc4 : ¬ ((255 : Int32) < x1)) (hu5 : own_c x2) (hc6 : (255 : Int32) < x2) (z2 : Sta Z Z.heap s1 s5 "Z" (.int 1)) (z3 : Sta Z Z.heap s1 s6 "I" iZ) (z4 : Sta Z Z.heap s1 s7 "I" (.int 8)) :
    CtrN l Z mn9 jdk_52_method_16_code 6 (some (.array .byte)) [] (⟨3, 2, 9, 40⟩ : Room) #[(.ref a1), iZ, (.int 3)] h0 [] (fun v h => ∃ r1 : Addr, ∃ r2 : ClassId, h0.size ≤ r1 ∧ Arv Z h r1 r2 .byte 6 [(.int (bH x1)), (.int (bL x1)), (.int (bH x2)), (.int (bL x2)), (.int (bH x3)), (.int (bL x3))] iZ ∧ v = some (.ref r1)) := by
  refine CtrN.intro (L0 := #[vr a1, vi 0, vi 3, un, un, un]) (plainFor_of_name pn3) O0 (own_entry rfl) ?_
  intro p e s m below meth c T0 hy hml hret hlk hnm W0
  refine o_iloadN W0 1 (hb hy d14_0) rfl rfl ?_
  refine o_newP W0 (aty := .byte) (w20 hw) tri (by decide) (cap := 3) (by decide) (by decide) 3 (hb hy d14_1) rfl (cells' := 1) (slots' := 3) rfl rfl (by decide) (by decide) (vs := [iZ, iZ, iZ]) (dv := iZ) rfl rfl ?_
  intro b1 T1 h1 k1 W1 E1 ge1 gz1 gb1 V1
  refine o_astoreN W1 (L' := #[vr a1, vi 0, vi 3, vr b1, un, un]) 4 (hb hy d14_3) rfl rfl rfl <| o_aloadN W1 5 (hb hy d14_4) rfl rfl rfl <| o_iloadN W1 6 (hb hy d14_5) rfl rfl <| o_aloadN W1 7 (hb hy d14_6) rfl rfl rfl <| o_iconst W1 (v := 0) 8 (hb hy d14_7) rfl rfl <| o_iloadN W1 9 (hb hy d14_8) rfl rfl ?_
  have c2 := (z1.ext E1)
  refine o_staticC W1 (w75 hw) (w76 hw) (w73 hw) (w77 hw) (by decide) (rm129 l hw a1 b1 z0 x1 x2 x3 k1 h1 W1.old c2 hu3 hc4 V1 gz1 (own_ne z1.lt ge1) hu5 hc6) 0 1 3 (by decide) (by rw [hml]; rfl) (lenOf pd5 rfl) [] rfl rfl 12 (hb hy d14_9) rfl rfl rfl (allS ⟨gz1, (Or.inr gb1)⟩ all0) tri ?_
  intro v7 T7 h7 lo7 W7 K7 q7
  obtain ⟨P7_0, rfl⟩ := q7.2.2
  show Gl _ _ _ _ _ _ _ _ [(.int 1)]
  refine o_istore W7 (L' := #[vr a1, vi 0, vi 3, vr b1, vi 1, un]) 14 (hb hy d14_12) rfl rfl <| o_iload W7 16 (hb hy d14_14) rfl rfl <| o_iloadN W7 17 (hb hy d14_16) rfl rfl <| o_icmpN W7 20 (hb hy d14_17) (XT.ii_eq_f (by decide)) rfl <| o_aloadN W7 21 (hb hy d14_20) rfl rfl rfl <| o_iloadN W7 22 (hb hy d14_21) rfl rfl ?_
  refine o_iloadN W7 23 (hb hy d14_22) rfl rfl ?_
  have c8 := (c2.keep K7 (ninS (own_ne z1.lt ge1) nin0))
  refine o_staticC W7 (w84 hw) (w85 hw) (w73 hw) (w86 hw) (by decide) (rm110 l hw a1 z0 x1 x2 x3 h7 W7.old c8 z2 z3 z4) 0 2 9 (by decide) (by rw [hml]; rfl) (lenOf pd6 rfl) [] rfl rfl 26 (hb hy d14_23) rfl rfl rfl all0 tri ?_
  intro v9 T9 h9 lo9 W9 K9 q9
  obtain ⟨r1_9, r2_9, P9_0, P9_1, rfl⟩ := q9.2.2
  show Gl _ _ _ _ _ _ _ _ [(.ref r1_9)]
  refine o_astore W9 (L' := #[vr a1, vi 0, vi 3, vr b1, vi 1, vr r1_9]) 28 (hb hy d14_26) rfl rfl rfl <| o_aload W9 30 (hb hy d14_28) rfl rfl rfl <| o_iload W9 32 (hb hy d14_30) rfl rfl ?_
  refine o_staticC W9 (w100 hw) (w101 hw) (w73 hw) (w102 hw) (by decide) (rm123 l hw r1_9 r2_9 x1 x2 x3 h9 W9.old z2 P9_1 z3 z4 hu5) 0 2 9 (by decide) (by rw [hml]; rfl) (lenOf pd11 rfl) [] rfl rfl 35 (hb hy d14_32) rfl rfl rfl all0 tri ?_
  intro v10 T10 h10 lo10 W10 K10 q10
  obtain rfl := q10.2.2
  show Gl _ _ _ _ _ _ _ _ [(.int x2)]
  refine o_sipush W10 (v := 255) 38 (hb hy d14_35) (by decide) rfl <| o_icmpY W10 54 (hb hy d14_38) (XT.ii_gt_t hc6) (by decide) rfl <| o_aload W10 56 (hb hy d14_54) rfl rfl rfl ?_
  have c11 := (P9_1.keep K10 nin0)
  exact o_retA W10 hlk (v := (.ref r1_9)) hret rfl rfl (hb hy d14_56) (by decide) (by decide) ⟨r1_9, r2_9, (Nat.le_trans W7.keep.1 P9_0), c11, rfl⟩
theorem rm131 (l : Launch) {Z a0} (hw : HW Z a0) (gCS : Int32) (a1 a2 : Addr) (z0 : ClassId) (x1 x2 x3 : Int32) (h0 : Heap) (O0 : Old Z Z.heap.size h0) (SgCS : Sta Z Z.heap s0 s8 "Z" (.int gCS)) (NgCS : ¬ (gCS = (0 : Int32))) (z1 : Arv Z h0 a2 z0 .char 3 [(.int x1), (.int x2), (.int x3)] iZ) (hu3 : own_c x1) (hc4 : ¬ ((255 : Int32) < x1)) (hu5 : own_c x2) (hc6 : (255 : Int32) < x2) (z2 : Sta Z Z.heap s1 s5 "Z" (.int 1)) (z3 : Sta Z Z.heap s1 s6 "I" iZ) (z4 : Sta Z Z.heap s1 s7 "I" (.int 8)) (z5 : Exa Z h0 a1 s0) (z6 : Fld Z h0 a1 s0 "coder" "B" iZ) (z7 : Z.heap.size ≤ a1) (z8 : Fld Z h0 a1 s0 "value" "[B" .null) :
    CtrN l Z mn5 jdk_42_method_149_code 6 none [] (⟨4, 2, 9, 57⟩ : Room) #[(.ref a1), (.ref a2), iZ, (.int 3), .null] h0 [a1] (fun v h => ∃ r1 : Addr, ∃ r2 : ClassId, h0.size ≤ r1 ∧ Fld Z h a1 s0 "coder" "B" (.int 1) ∧ Fld Z h a1 s0 "value" "[B" (.ref r1) ∧ Arv Z h r1 r2 .byte 6 [(.int (bH x1)), (.int (bL x1)), (.int (bH x2)), (.int (bL x2)), (.int (bH x3)), (.int (bL x3))] iZ ∧ v = none) := by
  refine CtrN.intro (L0 := #[vr a1, vr a2, vi 0, vi 3, .val .null, un]) (plainFor_of_name pn1) O0 (own_entry rfl) ?_
  intro p e s m below meth c T0 hy hml hret hlk hnm W0
  refine o_aloadN W0 1 (hb hy d3_0) rfl rfl rfl ?_
  refine o_initO W0 (w16 hw) (w17 hw) (w18 hw) (by rw [hml]; rfl) 4 (hb hy d3_1) rfl (by decide) 0 (by exact Nat.le_of_eq rfl) (by decide) ?_
  intro T1 W1
  refine o_iloadN W1 5 (hb hy d3_4) rfl rfl <| o_ifY W1 27 (hb hy d3_5) (XT.i0_ne_t (by decide)) (by decide) rfl ?_
  refine o_getS W1 (w48 hw) Via.refl (SgCS.ext W1.ox) 30 (hb hy d3_27) rfl ?_
  intro T2 W2
  refine o_ifN W2 33 (hb hy d3_30) (XT.i0_eq_f NgCS) rfl <| o_aloadN W2 34 (hb hy d3_33) rfl rfl rfl <| o_iloadN W2 35 (hb hy d3_34) rfl rfl <| o_iloadN W2 36 (hb hy d3_35) rfl rfl ?_
  refine o_staticC W2 (w71 hw) (w72 hw) (w73 hw) (w74 hw) (by decide) (rm130 l hw a2 z0 x1 x2 x3 h0 W2.old z1 hu3 hc4 hu5 hc6 z2 z3 z4) 0 2 9 (by decide) (by rw [hml]; rfl) (lenOf pd6 rfl) [] rfl rfl 39 (hb hy d3_36) rfl rfl rfl all0 tri ?_
  intro v7 T7 h7 lo7 W7 K7 q7
  obtain ⟨r1_7, r2_7, P7_0, P7_1, rfl⟩ := q7.2.2
  show Gl _ _ _ _ _ _ _ _ [(.ref r1_7)]
  refine o_astore W7 (L' := #[vr a1, vr a2, vi 0, vi 3, .val .null, vr r1_7]) 41 (hb hy d3_39) rfl rfl rfl <| o_aloadN W7 42 (hb hy d3_41) rfl rfl rfl <| o_aload W7 44 (hb hy d3_42) rfl rfl rfl <| o_iloadN W7 45 (hb hy d3_44) rfl rfl ?_
  refine o_staticC W7 (w78 hw) (w79 hw) (w73 hw) (w80 hw) (by decide) (rm113 l hw r1_7 r2_7 x1 x2 x3 h7 W7.old P7_1) 1 2 9 (by decide) (by rw [hml]; rfl) (lenOf pd7 rfl) [(.ref a1)] rfl rfl 48 (hb hy d3_45) rfl rfl rfl all0 tri ?_
  intro v8 T8 h8 lo8 W8 K8 q8
  obtain rfl := q8.2.2
  show Gl _ _ _ _ _ _ _ _ [(.int 1), (.ref a1)]
  have c9 := ((z5.keep K7).keep K8)
  have c10 := ((z6.keep K7 nin0).keep K8 nin0)
  refine o_putF W8 (w26 hw) Via.refl c10 c9 (Or.inr ⟨(w22 hw), rfl, hnm⟩) (w7 hw) (ty := .byte) (v' := (.int 1)) (by decide) rfl (by decide) z7 m0 tri 51 (hb hy d3_48) rfl ?_
  intro T11 h11 lo11 W11 R11
  have F11 := c10.same R11
  refine o_aloadN W11 52 (hb hy d3_51) rfl rfl rfl <| o_aload W11 54 (hb hy d3_52) rfl rfl rfl ?_
  have c12 := (c9.wr R11)
  have c13 := (((z8.keep K7 nin0).keep K8 nin0).other R11 (Or.inr (slot_ne (Or.inr (w21 hw)) (Or.inr (w22 hw)) (by decide) (t := (.array .byte)) (t' := .byte) (by decide) (by decide))))
  refine o_putF W11 (w25 hw) Via.refl c13 c12 (Or.inr ⟨(w21 hw), rfl, hnm⟩) (w7 hw) (ty := (.array .byte)) (v' := (.ref r1_7)) (by decide) rfl rfl z7 m0 tri 57 (hb hy d3_54) rfl ?_
  intro T14 h14 lo14 W14 R14
  have F14 := c13.same R14
  have c15 := (F11.other R14 (Or.inr (slot_ne (Or.inr (w22 hw)) (Or.inr (w21 hw)) (by decide) (t := .byte) (t' := (.array .byte)) (by decide) (by decide))))
  have c16 := (c12.wr R14)
  have c17 := (((P7_1.keep K8 nin0).other R11 (own_ne' z5.lt P7_0)).other R14 (own_ne' z5.lt P7_0))
  exact o_ret0 W14 hlk hret (hb hy d3_57) (by decide) (by decide) ⟨r1_7, r2_7, (Nat.le_trans W2.keep.1 P7_0), c15, F14, c17, rfl⟩
theorem rm132 (l : Launch) {Z a0} (hw : HW Z a0) (a1 a2 : Addr) (z0 : ClassId) (x1 x2 x3 : Int32) (h0 : Heap) (O0 : Old Z Z.heap.size h0) (z1 : Arv Z h0 a1 z0 .char 3 [(.int x1), (.int x2), (.int x3)] iZ) (hu1 : own_c x1) (hc2 : (255 : Int32) < x1) :
    CtrN l Z mn8 jdk_52_method_21_code 7 (some .int) [] (⟨0, 0, 0, 0⟩ : Room) #[(.ref a1), iZ, (.ref a2), iZ, (.int 3)] h0 [] (fun v h => v = some iZ) := by
  refine CtrN.intro (L0 := #[vr a1, vi 0, vr a2, vi 0, vi 3, un, un]) (plainFor_of_name pn3) O0 (own_entry rfl) ?_
  intro p e s m below meth c T0 hy hml hret hlk hnm W0
  refine o_iconst W0 (v := 0) 1 (hb hy d15_0) rfl rfl <| o_istore W0 (L' := #[vr a1, vi 0, vr a2, vi 0, vi 3, vi 0, un]) 3 (hb hy d15_1) rfl rfl <| o_iload W0 5 (hb hy d15_3) rfl rfl <| o_iload W0 7 (hb hy d15_5) rfl rfl <| o_icmpN W0 10 (hb hy d15_7) (XT.ii_ge_f (by decide)) rfl <| o_aloadN W0 11 (hb hy d15_10) rfl rfl rfl ?_
  refine o_iloadN W0 12 (hb hy d15_11) rfl rfl <| o_caload W0 z1 (x := x1) (i := 0) (by decide) (by decide) (by decide) rfl 13 (hb hy d15_12) rfl <| o_istore W0 (L' := #[vr a1, vi 0, vr a2, vi 0, vi 3, vi 0, vi x1]) 15 (hb hy d15_13) rfl rfl <| o_iload W0 17 (hb hy d15_15) rfl rfl <| o_sipush W0 (v := 255) 20 (hb hy d15_17) (by decide) rfl <| o_icmpN W0 23 (hb hy d15_20) (XT.ii_le_f hc2) rfl ?_
  refine o_iload W0 25 (hb hy d15_23) rfl rfl ?_
  exact o_retI W0 hlk hret (hb hy d15_25) (by decide) (by decide) rfl
theorem rm133 (l : Launch) {Z a0} (hw : HW Z a0) (a1 : Addr) (z0 : ClassId) (x1 x2 x3 : Int32) (h0 : Heap) (O0 : Old Z Z.heap.size h0) (z1 : Arv Z h0 a1 z0 .char 3 [(.int x1), (.int x2), (.int x3)] iZ) (hu3 : own_c x1) (hc4 : (255 : Int32) < x1) (z2 : Sta Z Z.heap s1 s5 "Z" (.int 1)) (z3 : Sta Z Z.heap s1 s6 "I" iZ) (z4 : Sta Z Z.heap s1 s7 "I" (.int 8)) :
    CtrN l Z mn9 jdk_52_method_16_code 6 (some (.array .byte)) [] (⟨3, 2, 9, 40⟩ : Room) #[(.ref a1), iZ, (.int 3)] h0 [] (fun v h => ∃ r1 : Addr, ∃ r2 : ClassId, h0.size ≤ r1 ∧ Arv Z h r1 r2 .byte 6 [(.int (bH x1)), (.int (bL x1)), (.int (bH x2)), (.int (bL x2)), (.int (bH x3)), (.int (bL x3))] iZ ∧ v = some (.ref r1)) := by
  refine CtrN.intro (L0 := #[vr a1, vi 0, vi 3, un, un, un]) (plainFor_of_name pn3) O0 (own_entry rfl) ?_
  intro p e s m below meth c T0 hy hml hret hlk hnm W0
  refine o_iloadN W0 1 (hb hy d14_0) rfl rfl ?_
  refine o_newP W0 (aty := .byte) (w20 hw) tri (by decide) (cap := 3) (by decide) (by decide) 3 (hb hy d14_1) rfl (cells' := 1) (slots' := 3) rfl rfl (by decide) (by decide) (vs := [iZ, iZ, iZ]) (dv := iZ) rfl rfl ?_
  intro b1 T1 h1 k1 W1 E1 ge1 gz1 gb1 V1
  refine o_astoreN W1 (L' := #[vr a1, vi 0, vi 3, vr b1, un, un]) 4 (hb hy d14_3) rfl rfl rfl <| o_aloadN W1 5 (hb hy d14_4) rfl rfl rfl <| o_iloadN W1 6 (hb hy d14_5) rfl rfl <| o_aloadN W1 7 (hb hy d14_6) rfl rfl rfl <| o_iconst W1 (v := 0) 8 (hb hy d14_7) rfl rfl <| o_iloadN W1 9 (hb hy d14_8) rfl rfl ?_
  have c2 := (z1.ext E1)
  refine o_staticC W1 (w75 hw) (w76 hw) (w73 hw) (w77 hw) (by decide) (rm132 l hw a1 b1 z0 x1 x2 x3 h1 W1.old c2 hu3 hc4) 0 1 3 (by decide) (by rw [hml]; rfl) (lenOf pd5 rfl) [] rfl rfl 12 (hb hy d14_9) rfl rfl rfl all0 tri ?_
  intro v5 T5 h5 lo5 W5 K5 q5
  obtain rfl := q5.2.2
  show Gl _ _ _ _ _ _ _ _ [iZ]
  refine o_istore W5 (L' := #[vr a1, vi 0, vi 3, vr b1, vi 0, un]) 14 (hb hy d14_12) rfl rfl <| o_iload W5 16 (hb hy d14_14) rfl rfl <| o_iloadN W5 17 (hb hy d14_16) rfl rfl <| o_icmpN W5 20 (hb hy d14_17) (XT.ii_eq_f (by decide)) rfl <| o_aloadN W5 21 (hb hy d14_20) rfl rfl rfl <| o_iloadN W5 22 (hb hy d14_21) rfl rfl ?_
  refine o_iloadN W5 23 (hb hy d14_22) rfl rfl ?_
  have c6 := (c2.keep K5 nin0)
  refine o_staticC W5 (w84 hw) (w85 hw) (w73 hw) (w86 hw) (by decide) (rm110 l hw a1 z0 x1 x2 x3 h5 W5.old c6 z2 z3 z4) 0 2 9 (by decide) (by rw [hml]; rfl) (lenOf pd6 rfl) [] rfl rfl 26 (hb hy d14_23) rfl rfl rfl all0 tri ?_
  intro v7 T7 h7 lo7 W7 K7 q7
  obtain ⟨r1_7, r2_7, P7_0, P7_1, rfl⟩ := q7.2.2
  show Gl _ _ _ _ _ _ _ _ [(.ref r1_7)]
  refine o_astore W7 (L' := #[vr a1, vi 0, vi 3, vr b1, vi 0, vr r1_7]) 28 (hb hy d14_26) rfl rfl rfl <| o_aload W7 30 (hb hy d14_28) rfl rfl rfl <| o_iload W7 32 (hb hy d14_30) rfl rfl ?_
  refine o_staticC W7 (w100 hw) (w101 hw) (w73 hw) (w102 hw) (by decide) (rm119 l hw r1_7 r2_7 x1 x2 x3 h7 W7.old z2 P7_1 z3 z4 hu3) 0 2 9 (by decide) (by rw [hml]; rfl) (lenOf pd11 rfl) [] rfl rfl 35 (hb hy d14_32) rfl rfl rfl all0 tri ?_
  intro v8 T8 h8 lo8 W8 K8 q8
  obtain rfl := q8.2.2
  show Gl _ _ _ _ _ _ _ _ [(.int x1)]
  refine o_sipush W8 (v := 255) 38 (hb hy d14_35) (by decide) rfl <| o_icmpY W8 54 (hb hy d14_38) (XT.ii_gt_t hc4) (by decide) rfl <| o_aload W8 56 (hb hy d14_54) rfl rfl rfl ?_
  have c9 := (P7_1.keep K8 nin0)
  exact o_retA W8 hlk (v := (.ref r1_7)) hret rfl rfl (hb hy d14_56) (by decide) (by decide) ⟨r1_7, r2_7, (Nat.le_trans W5.keep.1 P7_0), c9, rfl⟩
theorem rm134 (l : Launch) {Z a0} (hw : HW Z a0) (gCS : Int32) (a1 a2 : Addr) (z0 : ClassId) (x1 x2 x3 : Int32) (h0 : Heap) (O0 : Old Z Z.heap.size h0) (SgCS : Sta Z Z.heap s0 s8 "Z" (.int gCS)) (NgCS : ¬ (gCS = (0 : Int32))) (z1 : Arv Z h0 a2 z0 .char 3 [(.int x1), (.int x2), (.int x3)] iZ) (hu3 : own_c x1) (hc4 : (255 : Int32) < x1) (z2 : Sta Z Z.heap s1 s5 "Z" (.int 1)) (z3 : Sta Z Z.heap s1 s6 "I" iZ) (z4 : Sta Z Z.heap s1 s7 "I" (.int 8)) (z5 : Exa Z h0 a1 s0) (z6 : Fld Z h0 a1 s0 "coder" "B" iZ) (z7 : Z.heap.size ≤ a1) (z8 : Fld Z h0 a1 s0 "value" "[B" .null) :
    CtrN l Z mn5 jdk_42_method_149_code 6 none [] (⟨4, 2, 9, 57⟩ : Room) #[(.ref a1), (.ref a2), iZ, (.int 3), .null] h0 [a1] (fun v h => ∃ r1 : Addr, ∃ r2 : ClassId, h0.size ≤ r1 ∧ Fld Z h a1 s0 "coder" "B" (.int 1) ∧ Fld Z h a1 s0 "value" "[B" (.ref r1) ∧ Arv Z h r1 r2 .byte 6 [(.int (bH x1)), (.int (bL x1)), (.int (bH x2)), (.int (bL x2)), (.int (bH x3)), (.int (bL x3))] iZ ∧ v = none) := by
  refine CtrN.intro (L0 := #[vr a1, vr a2, vi 0, vi 3, .val .null, un]) (plainFor_of_name pn1) O0 (own_entry rfl) ?_
  intro p e s m below meth c T0 hy hml hret hlk hnm W0
  refine o_aloadN W0 1 (hb hy d3_0) rfl rfl rfl ?_
  refine o_initO W0 (w16 hw) (w17 hw) (w18 hw) (by rw [hml]; rfl) 4 (hb hy d3_1) rfl (by decide) 0 (by exact Nat.le_of_eq rfl) (by decide) ?_
  intro T1 W1
  refine o_iloadN W1 5 (hb hy d3_4) rfl rfl <| o_ifY W1 27 (hb hy d3_5) (XT.i0_ne_t (by decide)) (by decide) rfl ?_
  refine o_getS W1 (w48 hw) Via.refl (SgCS.ext W1.ox) 30 (hb hy d3_27) rfl ?_
  intro T2 W2
  refine o_ifN W2 33 (hb hy d3_30) (XT.i0_eq_f NgCS) rfl <| o_aloadN W2 34 (hb hy d3_33) rfl rfl rfl <| o_iloadN W2 35 (hb hy d3_34) rfl rfl <| o_iloadN W2 36 (hb hy d3_35) rfl rfl ?_
  refine o_staticC W2 (w71 hw) (w72 hw) (w73 hw) (w74 hw) (by decide) (rm133 l hw a2 z0 x1 x2 x3 h0 W2.old z1 hu3 hc4 z2 z3 z4) 0 2 9 (by decide) (by rw [hml]; rfl) (lenOf pd6 rfl) [] rfl rfl 39 (hb hy d3_36) rfl rfl rfl all0 tri ?_
  intro v5 T5 h5 lo5 W5 K5 q5
  obtain ⟨r1_5, r2_5, P5_0, P5_1, rfl⟩ := q5.2.2
  show Gl _ _ _ _ _ _ _ _ [(.ref r1_5)]
  refine o_astore W5 (L' := #[vr a1, vr a2, vi 0, vi 3, .val .null, vr r1_5]) 41 (hb hy d3_39) rfl rfl rfl <| o_aloadN W5 42 (hb hy d3_41) rfl rfl rfl <| o_aload W5 44 (hb hy d3_42) rfl rfl rfl <| o_iloadN W5 45 (hb hy d3_44) rfl rfl ?_
  refine o_staticC W5 (w78 hw) (w79 hw) (w73 hw) (w80 hw) (by decide) (rm113 l hw r1_5 r2_5 x1 x2 x3 h5 W5.old P5_1) 1 2 9 (by decide) (by rw [hml]; rfl) (lenOf pd7 rfl) [(.ref a1)] rfl rfl 48 (hb hy d3_45) rfl rfl rfl all0 tri ?_
  intro v6 T6 h6 lo6 W6 K6 q6
  obtain rfl := q6.2.2
  show Gl _ _ _ _ _ _ _ _ [(.int 1), (.ref a1)]
  have c7 := ((z5.keep K5).keep K6)
  have c8 := ((z6.keep K5 nin0).keep K6 nin0)
  refine o_putF W6 (w26 hw) Via.refl c8 c7 (Or.inr ⟨(w22 hw), rfl, hnm⟩) (w7 hw) (ty := .byte) (v' := (.int 1)) (by decide) rfl (by decide) z7 m0 tri 51 (hb hy d3_48) rfl ?_
  intro T9 h9 lo9 W9 R9
  have F9 := c8.same R9
  refine o_aloadN W9 52 (hb hy d3_51) rfl rfl rfl <| o_aload W9 54 (hb hy d3_52) rfl rfl rfl ?_
  have c10 := (c7.wr R9)
  have c11 := (((z8.keep K5 nin0).keep K6 nin0).other R9 (Or.inr (slot_ne (Or.inr (w21 hw)) (Or.inr (w22 hw)) (by decide) (t := (.array .byte)) (t' := .byte) (by decide) (by decide))))
  refine o_putF W9 (w25 hw) Via.refl c11 c10 (Or.inr ⟨(w21 hw), rfl, hnm⟩) (w7 hw) (ty := (.array .byte)) (v' := (.ref r1_5)) (by decide) rfl rfl z7 m0 tri 57 (hb hy d3_54) rfl ?_
  intro T12 h12 lo12 W12 R12
  have F12 := c11.same R12
  have c13 := (F9.other R12 (Or.inr (slot_ne (Or.inr (w22 hw)) (Or.inr (w21 hw)) (by decide) (t := .byte) (t' := (.array .byte)) (by decide) (by decide))))
  have c14 := (c10.wr R12)
  have c15 := (((P5_1.keep K6 nin0).other R9 (own_ne' z5.lt P5_0)).other R12 (own_ne' z5.lt P5_0))
  exact o_ret0 W12 hlk hret (hb hy d3_57) (by decide) (by decide) ⟨r1_5, r2_5, (Nat.le_trans W2.keep.1 P5_0), c13, F12, c15, rfl⟩
theorem rm135 (l : Launch) {Z a0} (hw : HW Z a0) (gCS : Int32) (gF : Value) (a1 a2 : Addr) (z0 : ClassId) (x1 x2 x3 : Int32) (h0 : Heap) (O0 : Old Z Z.heap.size h0) (z1 : Arv Z h0 a2 z0 .char 3 [(.int x1), (.int x2), (.int x3)] iZ) (SgCS : Sta Z Z.heap s0 s8 "Z" (.int gCS)) (NgCS : ¬ (gCS = (0 : Int32))) (hu1 : own_c x1) (hu3 : own_c x2) (hu5 : own_c x3) (z2 : Exa Z h0 a1 s0) (z3 : Fld Z h0 a1 s0 "coder" "B" iZ) (z4 : Fld Z h0 a1 s0 "value" "[B" .null) (z5 : Z.heap.size ≤ a1) (SgF : Sta Z Z.heap s2 s3 s4 gF) (NgF : gF.isRef = true) (z6 : Sta Z Z.heap s1 s5 "Z" (.int 1)) (z7 : Sta Z Z.heap s1 s6 "I" iZ) (z8 : Sta Z Z.heap s1 s7 "I" (.int 8)) :
    CtrN l Z mn6 jdk_42_method_3_code 2 none [] (⟨5, 2, 9, 74⟩ : Room) #[(.ref a1), (.ref a2)] h0 [a1] (fun v h => Sv l Z h a1 (3 : Int32) [((0 : Int32), x1), ((1 : Int32), x2), ((2 : Int32), x3)] ∧ v = none) := by
  refine CtrN.intro (L0 := #[vr a1, vr a2]) (plainFor_of_name pn1) O0 (own_entry rfl) ?_
  intro p e s m below meth c T0 hy hml hret hlk hnm W0
  refine o_aloadN W0 1 (hb hy d2_0) rfl rfl rfl <| o_aloadN W0 2 (hb hy d2_1) rfl rfl rfl <| o_iconst W0 (v := 0) 3 (hb hy d2_2) rfl rfl <| o_aloadN W0 4 (hb hy d2_3) rfl rfl rfl <| o_len W0 z1 5 (hb hy d2_4) rfl ?_
  refine o_aconstNull W0 6 (hb hy d2_5) rfl ?_
  rcases (Classical.em ((255 : Int32) < x1)).symm with hq2 | hq2
  · rcases (Classical.em ((255 : Int32) < x2)).symm with hq4 | hq4
    · rcases (Classical.em ((255 : Int32) < x3)).symm with hq6 | hq6
      · refine o_specialC W0 rfl (w12 hw) (w13 hw) (w15 hw) (by decide) (w8 hw) (rm86 l hw gCS a1 a2 z0 x1 x2 x3 h0 W0.old SgCS NgCS z1 hu1 hq2 hu3 hq4 hu5 hq6 z2 z3 z5 z4) 0 1 3 (by decide) (by rw [hml]; rfl) (lenOf pd1 rfl) [] rfl rfl 9 (hb hy d2_6) rfl rfl rfl (allS ⟨z5, m0⟩ all0) tri ?_
        intro v7 T7 h7 lo7 W7 K7 q7
        obtain ⟨r1_7, r2_7, P7_0, P7_1, P7_2, P7_3, rfl⟩ := q7.2.2
        show Gl _ _ _ _ _ _ _ _ []
        have sv8 : Sv l Z h7 a1 (3 : Int32) [((0 : Int32), x1), ((1 : Int32), x2), ((2 : Int32), x3)] := by
          intro h' O' K'
          have c9 := (P7_2.keep K' nin0)
          have c10 := (P7_3.keep K' nin0)
          have c11 := (P7_1.keep K' nin0)
          have c12 := ((z2.keep K7).keep K')
          exact ⟨(rm87 l hw a1 r1_7 r2_7 x1 x2 x3 h' O' c9 c10), (rm88 l hw gCS a1 r1_7 r2_7 x1 x2 x3 h' O' c9 c10 c12 SgCS NgCS c11), (al1 (rm93 l hw gCS gF a1 r1_7 r2_7 x1 x2 x3 h' O' c12 SgCS NgCS c11 c9 c10 SgF NgF hu1 hq2) (al1 (rm98 l hw gCS gF a1 r1_7 r2_7 x1 x2 x3 h' O' c12 SgCS NgCS c11 c9 c10 SgF NgF hu3 hq4) (al1 (rm103 l hw gCS gF a1 r1_7 r2_7 x1 x2 x3 h' O' c12 SgCS NgCS c11 c9 c10 SgF NgF hu5 hq6) al0)))⟩
        exact o_ret0 W7 hlk hret (hb hy d2_9) (by decide) (by decide) ⟨sv8, rfl⟩
      · refine o_specialC W0 rfl (w12 hw) (w13 hw) (w15 hw) (by decide) (w8 hw) (rm114 l hw gCS a1 a2 z0 x1 x2 x3 h0 W0.old SgCS NgCS z1 hu1 hq2 hu3 hq4 hu5 hq6 z6 z7 z8 z2 z3 z5 z4) 0 2 9 (by decide) (by rw [hml]; rfl) (lenOf pd1 rfl) [] rfl rfl 9 (hb hy d2_6) rfl rfl rfl (allS ⟨z5, m0⟩ all0) tri ?_
        intro v13 T13 h13 lo13 W13 K13 q13
        obtain ⟨r1_13, r2_13, P13_0, P13_1, P13_2, P13_3, rfl⟩ := q13.2.2
        show Gl _ _ _ _ _ _ _ _ []
        have sv14 : Sv l Z h13 a1 (3 : Int32) [((0 : Int32), x1), ((1 : Int32), x2), ((2 : Int32), x3)] := by
          intro h' O' K'
          have c15 := (P13_2.keep K' nin0)
          have c16 := (P13_3.keep K' nin0)
          have c17 := (P13_1.keep K' nin0)
          have c18 := ((z2.keep K13).keep K')
          exact ⟨(rm115 l hw a1 r1_13 r2_13 x1 x2 x3 h' O' c15 c16), (rm116 l hw gCS a1 r1_13 r2_13 x1 x2 x3 h' O' c15 c16 c18 SgCS NgCS c17), (al1 (rm121 l hw gCS gF a1 r1_13 r2_13 x1 x2 x3 h' O' c18 SgCS NgCS c17 c15 c16 SgF NgF z6 z7 z8 hu1) (al1 (rm125 l hw gCS gF a1 r1_13 r2_13 x1 x2 x3 h' O' c18 SgCS NgCS c17 c15 c16 SgF NgF z6 z7 z8 hu3) (al1 (rm128 l hw gCS gF a1 r1_13 r2_13 x1 x2 x3 h' O' c18 SgCS NgCS c17 c15 c16 SgF NgF z6 z7 z8 hu5) al0)))⟩
        exact o_ret0 W13 hlk hret (hb hy d2_9) (by decide) (by decide) ⟨sv14, rfl⟩
    · refine o_specialC W0 rfl (w12 hw) (w13 hw) (w15 hw) (by decide) (w8 hw) (rm131 l hw gCS a1 a2 z0 x1 x2 x3 h0 W0.old SgCS NgCS z1 hu1 hq2 hu3 hq4 z6 z7 z8 z2 z3 z5 z4) 0 2 9 (by decide) (by rw [hml]; rfl) (lenOf pd1 rfl) [] rfl rfl 9 (hb hy d2_6) rfl rfl rfl (allS ⟨z5, m0⟩ all0) tri ?_
      intro v19 T19 h19 lo19 W19 K19 q19
      obtain ⟨r1_19, r2_19, P19_0, P19_1, P19_2, P19_3, rfl⟩ := q19.2.2
      show Gl _ _ _ _ _ _ _ _ []
      have sv20 : Sv l Z h19 a1 (3 : Int32) [((0 : Int32), x1), ((1 : Int32), x2), ((2 : Int32), x3)] := by
        intro h' O' K'
        have c21 := (P19_2.keep K' nin0)
        have c22 := (P19_3.keep K' nin0)
        have c23 := (P19_1.keep K' nin0)
        have c24 := ((z2.keep K19).keep K')
        exact ⟨(rm115 l hw a1 r1_19 r2_19 x1 x2 x3 h' O' c21 c22), (rm116 l hw gCS a1 r1_19 r2_19 x1 x2 x3 h' O' c21 c22 c24 SgCS NgCS c23), (al1 (rm121 l hw gCS gF a1 r1_19 r2_19 x1 x2 x3 h' O' c24 SgCS NgCS c23 c21 c22 SgF NgF z6 z7 z8 hu1) (al1 (rm125 l hw gCS gF a1 r1_19 r2_19 x1 x2 x3 h' O' c24 SgCS NgCS c23 c21 c22 SgF NgF z6 z7 z8 hu3) (al1 (rm128 l hw gCS gF a1 r1_19 r2_19 x1 x2 x3 h' O' c24 SgCS NgCS c23 c21 c22 SgF NgF z6 z7 z8 hu5) al0)))⟩
      exact o_ret0 W19 hlk hret (hb hy d2_9) (by decide) (by decide) ⟨sv20, rfl⟩
  · refine o_specialC W0 rfl (w12 hw) (w13 hw) (w15 hw) (by decide) (w8 hw) (rm134 l hw gCS a1 a2 z0 x1 x2 x3 h0 W0.old SgCS NgCS z1 hu1 hq2 z6 z7 z8 z2 z3 z5 z4) 0 2 9 (by decide) (by rw [hml]; rfl) (lenOf pd1 rfl) [] rfl rfl 9 (hb hy d2_6) rfl rfl rfl (allS ⟨z5, m0⟩ all0) tri ?_
    intro v25 T25 h25 lo25 W25 K25 q25
    obtain ⟨r1_25, r2_25, P25_0, P25_1, P25_2, P25_3, rfl⟩ := q25.2.2
    show Gl _ _ _ _ _ _ _ _ []
    have sv26 : Sv l Z h25 a1 (3 : Int32) [((0 : Int32), x1), ((1 : Int32), x2), ((2 : Int32), x3)] := by
      intro h' O' K'
      have c27 := (P25_2.keep K' nin0)
      have c28 := (P25_3.keep K' nin0)
      have c29 := (P25_1.keep K' nin0)
      have c30 := ((z2.keep K25).keep K')
      exact ⟨(rm115 l hw a1 r1_25 r2_25 x1 x2 x3 h' O' c27 c28), (rm116 l hw gCS a1 r1_25 r2_25 x1 x2 x3 h' O' c27 c28 c30 SgCS NgCS c29), (al1 (rm121 l hw gCS gF a1 r1_25 r2_25 x1 x2 x3 h' O' c30 SgCS NgCS c29 c27 c28 SgF NgF z6 z7 z8 hu1) (al1 (rm125 l hw gCS gF a1 r1_25 r2_25 x1 x2 x3 h' O' c30 SgCS NgCS c29 c27 c28 SgF NgF z6 z7 z8 hu3) (al1 (rm128 l hw gCS gF a1 r1_25 r2_25 x1 x2 x3 h' O' c30 SgCS NgCS c29 c27 c28 SgF NgF z6 z7 z8 hu5) al0)))⟩
    exact o_ret0 W25 hlk hret (hb hy d2_9) (by decide) (by decide) ⟨sv26, rfl⟩
theorem rm136 (l : Launch) {Z a0} (hw : HW Z a0) (a1 : Addr) (x1 x2 x3 : Int32) (h0 : Heap) (O0 : Old Z Z.heap.size h0) (z0 : Exa Z h0 a1 s0) (z1 : Sv l Z h0 a1 (3 : Int32) [((0 : Int32), x1), ((1 : Int32), x2), ((2 : Int32), x3)]) (hc11 : (own_okc x1) = (0 : Int32)) :
    CtrN l Z mn7 prog_6_method_2_code 4 (some .boolean) [] (⟨6, 0, 0, 83⟩ : Room) #[(.ref a1)] h0 [] (fun v h => v = some iZ) := by
  refine CtrN.intro (L0 := #[vr a1, un, un, un]) (plainFor_of_name pn2) O0 (own_entry rfl) ?_
  intro p e s m below meth c T0 hy hml hret hlk hnm W0
  refine o_aloadN W0 1 (hb hy d5_0) rfl rfl rfl ?_
  refine o_ifnullN W0 4 (hb hy d5_1) rfl ?_
  refine o_aloadN W0 5 (hb hy d5_4) rfl rfl rfl ?_
  refine o_virtualC W0 (w31 hw) (w32 hw) (o_nf W0 rfl (w34 hw)) (w34 hw) (w33 hw) (by decide) z0 (w35 hw) (w8 hw) (z1 _ W0.old (Keep.refl _ _)).1 0 0 0 (by decide) (by rw [hml]; rfl) (lenOf pd3 rfl) [] rfl rfl 8 (hb hy d5_5) rfl rfl rfl all0 tri ?_
  intro v1 T1 h1 lo1 W1 K1 q1
  obtain rfl := q1.2.2
  show Gl _ _ _ _ _ _ _ _ [iZ]
  refine o_ifN W1 11 (hb hy d5_8) (XT.i0_ne_f (by decide)) rfl <| o_aloadN W1 12 (hb hy d5_11) rfl rfl rfl ?_
  have c2 := (z1.keep K1)
  have c3 := (z0.keep K1)
  refine o_virtualC W1 (w38 hw) (w39 hw) (o_nf W1 rfl (w41 hw)) (w41 hw) (w40 hw) (by decide) c3 (w42 hw) (w8 hw) (c2 _ W1.old (Keep.refl _ _)).2.1 0 0 0 (by decide) (by rw [hml]; rfl) (lenOf pd17 rfl) [] rfl rfl 15 (hb hy d5_12) rfl rfl rfl all0 tri ?_
  intro v4 T4 h4 lo4 W4 K4 q4
  obtain rfl := q4.2.2
  show Gl _ _ _ _ _ _ _ _ [(.int 3)]
  refine o_sipush W4 (v := 128) 18 (hb hy d5_15) (by decide) rfl <| o_icmpY W4 23 (hb hy d5_18) (XT.ii_le_t (by decide)) (by decide) rfl <| o_iconst W4 (v := 1) 24 (hb hy d5_23) rfl rfl <| o_istoreN W4 (L' := #[vr a1, vi 1, un, un]) 25 (hb hy d5_24) rfl rfl <| o_iconst W4 (v := 0) 26 (hb hy d5_25) rfl rfl <| o_istoreN W4 (L' := #[vr a1, vi 1, vi 0, un]) 27 (hb hy d5_26) rfl rfl ?_
  refine o_iloadN W4 28 (hb hy d5_27) rfl rfl <| o_aloadN W4 29 (hb hy d5_28) rfl rfl rfl ?_
  have c5 := (c2.keep K4)
  have c6 := (c3.keep K4)
  refine o_virtualC W4 (w38 hw) (w39 hw) (o_nf W4 rfl (w41 hw)) (w41 hw) (w40 hw) (by decide) c6 (w42 hw) (w8 hw) (c5 _ W4.old (Keep.refl _ _)).2.1 1 0 0 (by decide) (by rw [hml]; rfl) (lenOf pd17 rfl) [iZ] rfl rfl 32 (hb hy d5_29) rfl rfl rfl all0 tri ?_
  intro v7 T7 h7 lo7 W7 K7 q7
  obtain rfl := q7.2.2
  show Gl _ _ _ _ _ _ _ _ [(.int 3), iZ]
  refine o_icmpN W7 35 (hb hy d5_32) (XT.ii_ge_f (by decide)) rfl <| o_iloadN W7 36 (hb hy d5_35) rfl rfl <| o_ifN W7 39 (hb hy d5_36) (XT.i0_eq_f (by decide)) rfl <| o_aloadN W7 40 (hb hy d5_39) rfl rfl rfl <| o_iloadN W7 41 (hb hy d5_40) rfl rfl ?_
  have c8 := (c5.keep K7)
  have c9 := (c6.keep K7)
  refine o_virtualC W7 (w49 hw) (w50 hw) (o_nf W7 rfl (w52 hw)) (w52 hw) (w51 hw) (by decide) c9 (w53 hw) (w8 hw) (al_h (c8 _ W7.old (Keep.refl _ _)).2.2) 0 0 0 (by decide) (by rw [hml]; rfl) (lenOf pd18 rfl) [] rfl rfl 44 (hb hy d5_41) rfl rfl rfl all0 tri ?_
  intro v10 T10 h10 lo10 W10 K10 q10
  obtain rfl := q10.2.2
  show Gl _ _ _ _ _ _ _ _ [(.int x1)]
  refine o_istoreN W10 (L' := #[vr a1, vi 1, vi 0, vi x1]) 45 (hb hy d5_44) rfl rfl ?_
  refine own_tst W10 hy ?_
  rw [hc11]
  refine o_istoreN W10 (L' := #[vr a1, vi 0, vi 0, vi x1]) 105 (hb hy d5_104) rfl rfl <| o_iinc W10 (v := 1) (L' := #[vr a1, vi 0, vi 1, vi x1]) 108 (hb hy d5_105) rfl (by decide) rfl rfl <| o_goto W10 27 (hb hy d5_108) (by decide) rfl <| o_iloadN W10 28 (hb hy d5_27) rfl rfl <| o_aloadN W10 29 (hb hy d5_28) rfl rfl rfl ?_
  have c12 := (c8.keep K10)
  have c13 := (c9.keep K10)
  refine o_virtualC W10 (w38 hw) (w39 hw) (o_nf W10 rfl (w41 hw)) (w41 hw) (w40 hw) (by decide) c13 (w42 hw) (w8 hw) (c12 _ W10.old (Keep.refl _ _)).2.1 1 0 0 (by decide) (by rw [hml]; rfl) (lenOf pd17 rfl) [(.int 1)] rfl rfl 32 (hb hy d5_29) rfl rfl rfl all0 tri ?_
  intro v14 T14 h14 lo14 W14 K14 q14
  obtain rfl := q14.2.2
  show Gl _ _ _ _ _ _ _ _ [(.int 3), (.int 1)]
  refine o_icmpN W14 35 (hb hy d5_32) (XT.ii_ge_f (by decide)) rfl <| o_iloadN W14 36 (hb hy d5_35) rfl rfl <| o_ifY W14 111 (hb hy d5_36) (XT.i0_eq_t (by decide)) (by decide) rfl <| o_iloadN W14 112 (hb hy d5_111) rfl rfl ?_
  exact o_retN W14 hlk (t := .boolean) hret (by simp) (z' := (0 : Int32)) (by decide) (hb hy d5_112) (by decide) (by decide) rfl
theorem rm137 (l : Launch) {Z a0} (hw : HW Z a0) (a1 : Addr) (x1 x2 x3 : Int32) (h0 : Heap) (O0 : Old Z Z.heap.size h0) (z0 : Exa Z h0 a1 s0) (z1 : Sv l Z h0 a1 (3 : Int32) [((0 : Int32), x1), ((1 : Int32), x2), ((2 : Int32), x3)]) (hc11 : ¬ ((own_okc x1) = (0 : Int32))) (hc18 : (own_okc x2) = (0 : Int32)) :
    CtrN l Z mn7 prog_6_method_2_code 4 (some .boolean) [] (⟨6, 0, 0, 83⟩ : Room) #[(.ref a1)] h0 [] (fun v h => v = some iZ) := by
  refine CtrN.intro (L0 := #[vr a1, un, un, un]) (plainFor_of_name pn2) O0 (own_entry rfl) ?_
  intro p e s m below meth c T0 hy hml hret hlk hnm W0
  refine o_aloadN W0 1 (hb hy d5_0) rfl rfl rfl ?_
  refine o_ifnullN W0 4 (hb hy d5_1) rfl ?_
  refine o_aloadN W0 5 (hb hy d5_4) rfl rfl rfl ?_
  refine o_virtualC W0 (w31 hw) (w32 hw) (o_nf W0 rfl (w34 hw)) (w34 hw) (w33 hw) (by decide) z0 (w35 hw) (w8 hw) (z1 _ W0.old (Keep.refl _ _)).1 0 0 0 (by decide) (by rw [hml]; rfl) (lenOf pd3 rfl) [] rfl rfl 8 (hb hy d5_5) rfl rfl rfl all0 tri ?_
  intro v1 T1 h1 lo1 W1 K1 q1
  obtain rfl := q1.2.2
  show Gl _ _ _ _ _ _ _ _ [iZ]
  refine o_ifN W1 11 (hb hy d5_8) (XT.i0_ne_f (by decide)) rfl <| o_aloadN W1 12 (hb hy d5_11) rfl rfl rfl ?_
  have c2 := (z1.keep K1)
  have c3 := (z0.keep K1)
  refine o_virtualC W1 (w38 hw) (w39 hw) (o_nf W1 rfl (w41 hw)) (w41 hw) (w40 hw) (by decide) c3 (w42 hw) (w8 hw) (c2 _ W1.old (Keep.refl _ _)).2.1 0 0 0 (by decide) (by rw [hml]; rfl) (lenOf pd17 rfl) [] rfl rfl 15 (hb hy d5_12) rfl rfl rfl all0 tri ?_
  intro v4 T4 h4 lo4 W4 K4 q4
  obtain rfl := q4.2.2
  show Gl _ _ _ _ _ _ _ _ [(.int 3)]
  refine o_sipush W4 (v := 128) 18 (hb hy d5_15) (by decide) rfl <| o_icmpY W4 23 (hb hy d5_18) (XT.ii_le_t (by decide)) (by decide) rfl <| o_iconst W4 (v := 1) 24 (hb hy d5_23) rfl rfl <| o_istoreN W4 (L' := #[vr a1, vi 1, un, un]) 25 (hb hy d5_24) rfl rfl <| o_iconst W4 (v := 0) 26 (hb hy d5_25) rfl rfl <| o_istoreN W4 (L' := #[vr a1, vi 1, vi 0, un]) 27 (hb hy d5_26) rfl rfl ?_
  refine o_iloadN W4 28 (hb hy d5_27) rfl rfl <| o_aloadN W4 29 (hb hy d5_28) rfl rfl rfl ?_
  have c5 := (c2.keep K4)
  have c6 := (c3.keep K4)
  refine o_virtualC W4 (w38 hw) (w39 hw) (o_nf W4 rfl (w41 hw)) (w41 hw) (w40 hw) (by decide) c6 (w42 hw) (w8 hw) (c5 _ W4.old (Keep.refl _ _)).2.1 1 0 0 (by decide) (by rw [hml]; rfl) (lenOf pd17 rfl) [iZ] rfl rfl 32 (hb hy d5_29) rfl rfl rfl all0 tri ?_
  intro v7 T7 h7 lo7 W7 K7 q7
  obtain rfl := q7.2.2
  show Gl _ _ _ _ _ _ _ _ [(.int 3), iZ]
  refine o_icmpN W7 35 (hb hy d5_32) (XT.ii_ge_f (by decide)) rfl <| o_iloadN W7 36 (hb hy d5_35) rfl rfl <| o_ifN W7 39 (hb hy d5_36) (XT.i0_eq_f (by decide)) rfl <| o_aloadN W7 40 (hb hy d5_39) rfl rfl rfl <| o_iloadN W7 41 (hb hy d5_40) rfl rfl ?_
  have c8 := (c5.keep K7)
  have c9 := (c6.keep K7)
  refine o_virtualC W7 (w49 hw) (w50 hw) (o_nf W7 rfl (w52 hw)) (w52 hw) (w51 hw) (by decide) c9 (w53 hw) (w8 hw) (al_h (c8 _ W7.old (Keep.refl _ _)).2.2) 0 0 0 (by decide) (by rw [hml]; rfl) (lenOf pd18 rfl) [] rfl rfl 44 (hb hy d5_41) rfl rfl rfl all0 tri ?_
  intro v10 T10 h10 lo10 W10 K10 q10
  obtain rfl := q10.2.2
  show Gl _ _ _ _ _ _ _ _ [(.int x1)]
  refine o_istoreN W10 (L' := #[vr a1, vi 1, vi 0, vi x1]) 45 (hb hy d5_44) rfl rfl ?_
  refine own_tst W10 hy ?_
  rw [own_ok1 hc11]
  refine o_istoreN W10 (L' := #[vr a1, vi 1, vi 0, vi x1]) 105 (hb hy d5_104) rfl rfl <| o_iinc W10 (v := 1) (L' := #[vr a1, vi 1, vi 1, vi x1]) 108 (hb hy d5_105) rfl (by decide) rfl rfl <| o_goto W10 27 (hb hy d5_108) (by decide) rfl <| o_iloadN W10 28 (hb hy d5_27) rfl rfl <| o_aloadN W10 29 (hb hy d5_28) rfl rfl rfl ?_
  have c12 := (c8.keep K10)
  have c13 := (c9.keep K10)
  refine o_virtualC W10 (w38 hw) (w39 hw) (o_nf W10 rfl (w41 hw)) (w41 hw) (w40 hw) (by decide) c13 (w42 hw) (w8 hw) (c12 _ W10.old (Keep.refl _ _)).2.1 1 0 0 (by decide) (by rw [hml]; rfl) (lenOf pd17 rfl) [(.int 1)] rfl rfl 32 (hb hy d5_29) rfl rfl rfl all0 tri ?_
  intro v14 T14 h14 lo14 W14 K14 q14
  obtain rfl := q14.2.2
  show Gl _ _ _ _ _ _ _ _ [(.int 3), (.int 1)]
  refine o_icmpN W14 35 (hb hy d5_32) (XT.ii_ge_f (by decide)) rfl <| o_iloadN W14 36 (hb hy d5_35) rfl rfl <| o_ifN W14 39 (hb hy d5_36) (XT.i0_eq_f (by decide)) rfl <| o_aloadN W14 40 (hb hy d5_39) rfl rfl rfl <| o_iloadN W14 41 (hb hy d5_40) rfl rfl ?_
  have c15 := (c12.keep K14)
  have c16 := (c13.keep K14)
  refine o_virtualC W14 (w49 hw) (w50 hw) (o_nf W14 rfl (w52 hw)) (w52 hw) (w51 hw) (by decide) c16 (w53 hw) (w8 hw) (al_h (al_t (c15 _ W14.old (Keep.refl _ _)).2.2)) 0 0 0 (by decide) (by rw [hml]; rfl) (lenOf pd18 rfl) [] rfl rfl 44 (hb hy d5_41) rfl rfl rfl all0 tri ?_
  intro v17 T17 h17 lo17 W17 K17 q17
  obtain rfl := q17.2.2
  show Gl _ _ _ _ _ _ _ _ [(.int x2)]
  refine o_istoreN W17 (L' := #[vr a1, vi 1, vi 1, vi x2]) 45 (hb hy d5_44) rfl rfl ?_
  refine own_tst W17 hy ?_
  rw [hc18]
  refine o_istoreN W17 (L' := #[vr a1, vi 0, vi 1, vi x2]) 105 (hb hy d5_104) rfl rfl <| o_iinc W17 (v := 2) (L' := #[vr a1, vi 0, vi 2, vi x2]) 108 (hb hy d5_105) rfl (by decide) rfl rfl <| o_goto W17 27 (hb hy d5_108) (by decide) rfl <| o_iloadN W17 28 (hb hy d5_27) rfl rfl <| o_aloadN W17 29 (hb hy d5_28) rfl rfl rfl ?_
  have c19 := (c15.keep K17)
  have c20 := (c16.keep K17)
  refine o_virtualC W17 (w38 hw) (w39 hw) (o_nf W17 rfl (w41 hw)) (w41 hw) (w40 hw) (by decide) c20 (w42 hw) (w8 hw) (c19 _ W17.old (Keep.refl _ _)).2.1 1 0 0 (by decide) (by rw [hml]; rfl) (lenOf pd17 rfl) [(.int 2)] rfl rfl 32 (hb hy d5_29) rfl rfl rfl all0 tri ?_
  intro v21 T21 h21 lo21 W21 K21 q21
  obtain rfl := q21.2.2
  show Gl _ _ _ _ _ _ _ _ [(.int 3), (.int 2)]
  refine o_icmpN W21 35 (hb hy d5_32) (XT.ii_ge_f (by decide)) rfl <| o_iloadN W21 36 (hb hy d5_35) rfl rfl <| o_ifY W21 111 (hb hy d5_36) (XT.i0_eq_t (by decide)) (by decide) rfl <| o_iloadN W21 112 (hb hy d5_111) rfl rfl ?_
  exact o_retN W21 hlk (t := .boolean) hret (by simp) (z' := (0 : Int32)) (by decide) (hb hy d5_112) (by decide) (by decide) rfl
theorem rm138 (l : Launch) {Z a0} (hw : HW Z a0) (a1 : Addr) (x1 x2 x3 : Int32) (h0 : Heap) (O0 : Old Z Z.heap.size h0) (z0 : Exa Z h0 a1 s0) (z1 : Sv l Z h0 a1 (3 : Int32) [((0 : Int32), x1), ((1 : Int32), x2), ((2 : Int32), x3)]) (hc11 : ¬ ((own_okc x1) = (0 : Int32))) (hc18 : ¬ ((own_okc x2) = (0 : Int32))) (hc25 : (own_okc x3) = (0 : Int32)) :
    CtrN l Z mn7 prog_6_method_2_code 4 (some .boolean) [] (⟨6, 0, 0, 83⟩ : Room) #[(.ref a1)] h0 [] (fun v h => v = some iZ) := by
  refine CtrN.intro (L0 := #[vr a1, un, un, un]) (plainFor_of_name pn2) O0 (own_entry rfl) ?_
  intro p e s m below meth c T0 hy hml hret hlk hnm W0
  refine o_aloadN W0 1 (hb hy d5_0) rfl rfl rfl ?_
  refine o_ifnullN W0 4 (hb hy d5_1) rfl ?_
  refine o_aloadN W0 5 (hb hy d5_4) rfl rfl rfl ?_
  refine o_virtualC W0 (w31 hw) (w32 hw) (o_nf W0 rfl (w34 hw)) (w34 hw) (w33 hw) (by decide) z0 (w35 hw) (w8 hw) (z1 _ W0.old (Keep.refl _ _)).1 0 0 0 (by decide) (by rw [hml]; rfl) (lenOf pd3 rfl) [] rfl rfl 8 (hb hy d5_5) rfl rfl rfl all0 tri ?_
  intro v1 T1 h1 lo1 W1 K1 q1
  obtain rfl := q1.2.2
  show Gl _ _ _ _ _ _ _ _ [iZ]
  refine o_ifN W1 11 (hb hy d5_8) (XT.i0_ne_f (by decide)) rfl <| o_aloadN W1 12 (hb hy d5_11) rfl rfl rfl ?_
  have c2 := (z1.keep K1)
  have c3 := (z0.keep K1)
  refine o_virtualC W1 (w38 hw) (w39 hw) (o_nf W1 rfl (w41 hw)) (w41 hw) (w40 hw) (by decide) c3 (w42 hw) (w8 hw) (c2 _ W1.old (Keep.refl _ _)).2.1 0 0 0 (by decide) (by rw [hml]; rfl) (lenOf pd17 rfl) [] rfl rfl 15 (hb hy d5_12) rfl rfl rfl all0 tri ?_
  intro v4 T4 h4 lo4 W4 K4 q4
  obtain rfl := q4.2.2
  show Gl _ _ _ _ _ _ _ _ [(.int 3)]
  refine o_sipush W4 (v := 128) 18 (hb hy d5_15) (by decide) rfl <| o_icmpY W4 23 (hb hy d5_18) (XT.ii_le_t (by decide)) (by decide) rfl <| o_iconst W4 (v := 1) 24 (hb hy d5_23) rfl rfl <| o_istoreN W4 (L' := #[vr a1, vi 1, un, un]) 25 (hb hy d5_24) rfl rfl <| o_iconst W4 (v := 0) 26 (hb hy d5_25) rfl rfl <| o_istoreN W4 (L' := #[vr a1, vi 1, vi 0, un]) 27 (hb hy d5_26) rfl rfl ?_
  refine o_iloadN W4 28 (hb hy d5_27) rfl rfl <| o_aloadN W4 29 (hb hy d5_28) rfl rfl rfl ?_
  have c5 := (c2.keep K4)
  have c6 := (c3.keep K4)
  refine o_virtualC W4 (w38 hw) (w39 hw) (o_nf W4 rfl (w41 hw)) (w41 hw) (w40 hw) (by decide) c6 (w42 hw) (w8 hw) (c5 _ W4.old (Keep.refl _ _)).2.1 1 0 0 (by decide) (by rw [hml]; rfl) (lenOf pd17 rfl) [iZ] rfl rfl 32 (hb hy d5_29) rfl rfl rfl all0 tri ?_
  intro v7 T7 h7 lo7 W7 K7 q7
  obtain rfl := q7.2.2
  show Gl _ _ _ _ _ _ _ _ [(.int 3), iZ]
  refine o_icmpN W7 35 (hb hy d5_32) (XT.ii_ge_f (by decide)) rfl <| o_iloadN W7 36 (hb hy d5_35) rfl rfl <| o_ifN W7 39 (hb hy d5_36) (XT.i0_eq_f (by decide)) rfl <| o_aloadN W7 40 (hb hy d5_39) rfl rfl rfl <| o_iloadN W7 41 (hb hy d5_40) rfl rfl ?_
  have c8 := (c5.keep K7)
  have c9 := (c6.keep K7)
  refine o_virtualC W7 (w49 hw) (w50 hw) (o_nf W7 rfl (w52 hw)) (w52 hw) (w51 hw) (by decide) c9 (w53 hw) (w8 hw) (al_h (c8 _ W7.old (Keep.refl _ _)).2.2) 0 0 0 (by decide) (by rw [hml]; rfl) (lenOf pd18 rfl) [] rfl rfl 44 (hb hy d5_41) rfl rfl rfl all0 tri ?_
  intro v10 T10 h10 lo10 W10 K10 q10
  obtain rfl := q10.2.2
  show Gl _ _ _ _ _ _ _ _ [(.int x1)]
  refine o_istoreN W10 (L' := #[vr a1, vi 1, vi 0, vi x1]) 45 (hb hy d5_44) rfl rfl ?_
  refine own_tst W10 hy ?_
  rw [own_ok1 hc11]
  refine o_istoreN W10 (L' := #[vr a1, vi 1, vi 0, vi x1]) 105 (hb hy d5_104) rfl rfl <| o_iinc W10 (v := 1) (L' := #[vr a1, vi 1, vi 1, vi x1]) 108 (hb hy d5_105) rfl (by decide) rfl rfl <| o_goto W10 27 (hb hy d5_108) (by decide) rfl <| o_iloadN W10 28 (hb hy d5_27) rfl rfl <| o_aloadN W10 29 (hb hy d5_28) rfl rfl rfl ?_
  have c12 := (c8.keep K10)
  have c13 := (c9.keep K10)
  refine o_virtualC W10 (w38 hw) (w39 hw) (o_nf W10 rfl (w41 hw)) (w41 hw) (w40 hw) (by decide) c13 (w42 hw) (w8 hw) (c12 _ W10.old (Keep.refl _ _)).2.1 1 0 0 (by decide) (by rw [hml]; rfl) (lenOf pd17 rfl) [(.int 1)] rfl rfl 32 (hb hy d5_29) rfl rfl rfl all0 tri ?_
  intro v14 T14 h14 lo14 W14 K14 q14
  obtain rfl := q14.2.2
  show Gl _ _ _ _ _ _ _ _ [(.int 3), (.int 1)]
  refine o_icmpN W14 35 (hb hy d5_32) (XT.ii_ge_f (by decide)) rfl <| o_iloadN W14 36 (hb hy d5_35) rfl rfl <| o_ifN W14 39 (hb hy d5_36) (XT.i0_eq_f (by decide)) rfl <| o_aloadN W14 40 (hb hy d5_39) rfl rfl rfl <| o_iloadN W14 41 (hb hy d5_40) rfl rfl ?_
  have c15 := (c12.keep K14)
  have c16 := (c13.keep K14)
  refine o_virtualC W14 (w49 hw) (w50 hw) (o_nf W14 rfl (w52 hw)) (w52 hw) (w51 hw) (by decide) c16 (w53 hw) (w8 hw) (al_h (al_t (c15 _ W14.old (Keep.refl _ _)).2.2)) 0 0 0 (by decide) (by rw [hml]; rfl) (lenOf pd18 rfl) [] rfl rfl 44 (hb hy d5_41) rfl rfl rfl all0 tri ?_
  intro v17 T17 h17 lo17 W17 K17 q17
  obtain rfl := q17.2.2
  show Gl _ _ _ _ _ _ _ _ [(.int x2)]
  refine o_istoreN W17 (L' := #[vr a1, vi 1, vi 1, vi x2]) 45 (hb hy d5_44) rfl rfl ?_
  refine own_tst W17 hy ?_
  rw [own_ok1 hc18]
  refine o_istoreN W17 (L' := #[vr a1, vi 1, vi 1, vi x2]) 105 (hb hy d5_104) rfl rfl <| o_iinc W17 (v := 2) (L' := #[vr a1, vi 1, vi 2, vi x2]) 108 (hb hy d5_105) rfl (by decide) rfl rfl <| o_goto W17 27 (hb hy d5_108) (by decide) rfl <| o_iloadN W17 28 (hb hy d5_27) rfl rfl <| o_aloadN W17 29 (hb hy d5_28) rfl rfl rfl ?_
  have c19 := (c15.keep K17)
  have c20 := (c16.keep K17)
  refine o_virtualC W17 (w38 hw) (w39 hw) (o_nf W17 rfl (w41 hw)) (w41 hw) (w40 hw) (by decide) c20 (w42 hw) (w8 hw) (c19 _ W17.old (Keep.refl _ _)).2.1 1 0 0 (by decide) (by rw [hml]; rfl) (lenOf pd17 rfl) [(.int 2)] rfl rfl 32 (hb hy d5_29) rfl rfl rfl all0 tri ?_
  intro v21 T21 h21 lo21 W21 K21 q21
  obtain rfl := q21.2.2
  show Gl _ _ _ _ _ _ _ _ [(.int 3), (.int 2)]
  refine o_icmpN W21 35 (hb hy d5_32) (XT.ii_ge_f (by decide)) rfl <| o_iloadN W21 36 (hb hy d5_35) rfl rfl <| o_ifN W21 39 (hb hy d5_36) (XT.i0_eq_f (by decide)) rfl <| o_aloadN W21 40 (hb hy d5_39) rfl rfl rfl <| o_iloadN W21 41 (hb hy d5_40) rfl rfl ?_
  have c22 := (c19.keep K21)
  have c23 := (c20.keep K21)
  refine o_virtualC W21 (w49 hw) (w50 hw) (o_nf W21 rfl (w52 hw)) (w52 hw) (w51 hw) (by decide) c23 (w53 hw) (w8 hw) (al_h (al_t (al_t (c22 _ W21.old (Keep.refl _ _)).2.2))) 0 0 0 (by decide) (by rw [hml]; rfl) (lenOf pd18 rfl) [] rfl rfl 44 (hb hy d5_41) rfl rfl rfl all0 tri ?_
  intro v24 T24 h24 lo24 W24 K24 q24
  obtain rfl := q24.2.2
  show Gl _ _ _ _ _ _ _ _ [(.int x3)]
  refine o_istoreN W24 (L' := #[vr a1, vi 1, vi 2, vi x3]) 45 (hb hy d5_44) rfl rfl ?_
  refine own_tst W24 hy ?_
  rw [hc25]
  refine o_istoreN W24 (L' := #[vr a1, vi 0, vi 2, vi x3]) 105 (hb hy d5_104) rfl rfl <| o_iinc W24 (v := 3) (L' := #[vr a1, vi 0, vi 3, vi x3]) 108 (hb hy d5_105) rfl (by decide) rfl rfl <| o_goto W24 27 (hb hy d5_108) (by decide) rfl <| o_iloadN W24 28 (hb hy d5_27) rfl rfl <| o_aloadN W24 29 (hb hy d5_28) rfl rfl rfl ?_
  have c26 := (c22.keep K24)
  have c27 := (c23.keep K24)
  refine o_virtualC W24 (w38 hw) (w39 hw) (o_nf W24 rfl (w41 hw)) (w41 hw) (w40 hw) (by decide) c27 (w42 hw) (w8 hw) (c26 _ W24.old (Keep.refl _ _)).2.1 1 0 0 (by decide) (by rw [hml]; rfl) (lenOf pd17 rfl) [(.int 3)] rfl rfl 32 (hb hy d5_29) rfl rfl rfl all0 tri ?_
  intro v28 T28 h28 lo28 W28 K28 q28
  obtain rfl := q28.2.2
  show Gl _ _ _ _ _ _ _ _ [(.int 3), (.int 3)]
  refine o_icmpY W28 111 (hb hy d5_32) (XT.ii_ge_t (by decide)) (by decide) rfl <| o_iloadN W28 112 (hb hy d5_111) rfl rfl ?_
  exact o_retN W28 hlk (t := .boolean) hret (by simp) (z' := (0 : Int32)) (by decide) (hb hy d5_112) (by decide) (by decide) rfl
theorem rm139 (l : Launch) {Z a0} (hw : HW Z a0) (a1 : Addr) (x1 x2 x3 : Int32) (h0 : Heap) (O0 : Old Z Z.heap.size h0) (z0 : Exa Z h0 a1 s0) (z1 : Sv l Z h0 a1 (3 : Int32) [((0 : Int32), x1), ((1 : Int32), x2), ((2 : Int32), x3)]) (hc11 : ¬ ((own_okc x1) = (0 : Int32))) (hc18 : ¬ ((own_okc x2) = (0 : Int32))) (hc25 : ¬ ((own_okc x3) = (0 : Int32))) :
    CtrN l Z mn7 prog_6_method_2_code 4 (some .boolean) [] (⟨6, 0, 0, 83⟩ : Room) #[(.ref a1)] h0 [] (fun v h => v = some (.int 1)) := by
  refine CtrN.intro (L0 := #[vr a1, un, un, un]) (plainFor_of_name pn2) O0 (own_entry rfl) ?_
  intro p e s m below meth c T0 hy hml hret hlk hnm W0
  refine o_aloadN W0 1 (hb hy d5_0) rfl rfl rfl ?_
  refine o_ifnullN W0 4 (hb hy d5_1) rfl ?_
  refine o_aloadN W0 5 (hb hy d5_4) rfl rfl rfl ?_
  refine o_virtualC W0 (w31 hw) (w32 hw) (o_nf W0 rfl (w34 hw)) (w34 hw) (w33 hw) (by decide) z0 (w35 hw) (w8 hw) (z1 _ W0.old (Keep.refl _ _)).1 0 0 0 (by decide) (by rw [hml]; rfl) (lenOf pd3 rfl) [] rfl rfl 8 (hb hy d5_5) rfl rfl rfl all0 tri ?_
  intro v1 T1 h1 lo1 W1 K1 q1
  obtain rfl := q1.2.2
  show Gl _ _ _ _ _ _ _ _ [iZ]
  refine o_ifN W1 11 (hb hy d5_8) (XT.i0_ne_f (by decide)) rfl <| o_aloadN W1 12 (hb hy d5_11) rfl rfl rfl ?_
  have c2 := (z1.keep K1)
  have c3 := (z0.keep K1)
  refine o_virtualC W1 (w38 hw) (w39 hw) (o_nf W1 rfl (w41 hw)) (w41 hw) (w40 hw) (by decide) c3 (w42 hw) (w8 hw) (c2 _ W1.old (Keep.refl _ _)).2.1 0 0 0 (by decide) (by rw [hml]; rfl) (lenOf pd17 rfl) [] rfl rfl 15 (hb hy d5_12) rfl rfl rfl all0 tri ?_
  intro v4 T4 h4 lo4 W4 K4 q4
  obtain rfl := q4.2.2
  show Gl _ _ _ _ _ _ _ _ [(.int 3)]
  refine o_sipush W4 (v := 128) 18 (hb hy d5_15) (by decide) rfl <| o_icmpY W4 23 (hb hy d5_18) (XT.ii_le_t (by decide)) (by decide) rfl <| o_iconst W4 (v := 1) 24 (hb hy d5_23) rfl rfl <| o_istoreN W4 (L' := #[vr a1, vi 1, un, un]) 25 (hb hy d5_24) rfl rfl <| o_iconst W4 (v := 0) 26 (hb hy d5_25) rfl rfl <| o_istoreN W4 (L' := #[vr a1, vi 1, vi 0, un]) 27 (hb hy d5_26) rfl rfl ?_
  refine o_iloadN W4 28 (hb hy d5_27) rfl rfl <| o_aloadN W4 29 (hb hy d5_28) rfl rfl rfl ?_
  have c5 := (c2.keep K4)
  have c6 := (c3.keep K4)
  refine o_virtualC W4 (w38 hw) (w39 hw) (o_nf W4 rfl (w41 hw)) (w41 hw) (w40 hw) (by decide) c6 (w42 hw) (w8 hw) (c5 _ W4.old (Keep.refl _ _)).2.1 1 0 0 (by decide) (by rw [hml]; rfl) (lenOf pd17 rfl) [iZ] rfl rfl 32 (hb hy d5_29) rfl rfl rfl all0 tri ?_
  intro v7 T7 h7 lo7 W7 K7 q7
  obtain rfl := q7.2.2
  show Gl _ _ _ _ _ _ _ _ [(.int 3), iZ]
  refine o_icmpN W7 35 (hb hy d5_32) (XT.ii_ge_f (by decide)) rfl <| o_iloadN W7 36 (hb hy d5_35) rfl rfl <| o_ifN W7 39 (hb hy d5_36) (XT.i0_eq_f (by decide)) rfl <| o_aloadN W7 40 (hb hy d5_39) rfl rfl rfl <| o_iloadN W7 41 (hb hy d5_40) rfl rfl ?_
  have c8 := (c5.keep K7)
  have c9 := (c6.keep K7)
  refine o_virtualC W7 (w49 hw) (w50 hw) (o_nf W7 rfl (w52 hw)) (w52 hw) (w51 hw) (by decide) c9 (w53 hw) (w8 hw) (al_h (c8 _ W7.old (Keep.refl _ _)).2.2) 0 0 0 (by decide) (by rw [hml]; rfl) (lenOf pd18 rfl) [] rfl rfl 44 (hb hy d5_41) rfl rfl rfl all0 tri ?_
  intro v10 T10 h10 lo10 W10 K10 q10
  obtain rfl := q10.2.2
  show Gl _ _ _ _ _ _ _ _ [(.int x1)]
  refine o_istoreN W10 (L' := #[vr a1, vi 1, vi 0, vi x1]) 45 (hb hy d5_44) rfl rfl ?_
  refine own_tst W10 hy ?_
  rw [own_ok1 hc11]
  refine o_istoreN W10 (L' := #[vr a1, vi 1, vi 0, vi x1]) 105 (hb hy d5_104) rfl rfl <| o_iinc W10 (v := 1) (L' := #[vr a1, vi 1, vi 1, vi x1]) 108 (hb hy d5_105) rfl (by decide) rfl rfl <| o_goto W10 27 (hb hy d5_108) (by decide) rfl <| o_iloadN W10 28 (hb hy d5_27) rfl rfl <| o_aloadN W10 29 (hb hy d5_28) rfl rfl rfl ?_
  have c12 := (c8.keep K10)
  have c13 := (c9.keep K10)
  refine o_virtualC W10 (w38 hw) (w39 hw) (o_nf W10 rfl (w41 hw)) (w41 hw) (w40 hw) (by decide) c13 (w42 hw) (w8 hw) (c12 _ W10.old (Keep.refl _ _)).2.1 1 0 0 (by decide) (by rw [hml]; rfl) (lenOf pd17 rfl) [(.int 1)] rfl rfl 32 (hb hy d5_29) rfl rfl rfl all0 tri ?_
  intro v14 T14 h14 lo14 W14 K14 q14
  obtain rfl := q14.2.2
  show Gl _ _ _ _ _ _ _ _ [(.int 3), (.int 1)]
  refine o_icmpN W14 35 (hb hy d5_32) (XT.ii_ge_f (by decide)) rfl <| o_iloadN W14 36 (hb hy d5_35) rfl rfl <| o_ifN W14 39 (hb hy d5_36) (XT.i0_eq_f (by decide)) rfl <| o_aloadN W14 40 (hb hy d5_39) rfl rfl rfl <| o_iloadN W14 41 (hb hy d5_40) rfl rfl ?_
  have c15 := (c12.keep K14)
  have c16 := (c13.keep K14)
  refine o_virtualC W14 (w49 hw) (w50 hw) (o_nf W14 rfl (w52 hw)) (w52 hw) (w51 hw) (by decide) c16 (w53 hw) (w8 hw) (al_h (al_t (c15 _ W14.old (Keep.refl _ _)).2.2)) 0 0 0 (by decide) (by rw [hml]; rfl) (lenOf pd18 rfl) [] rfl rfl 44 (hb hy d5_41) rfl rfl rfl all0 tri ?_
  intro v17 T17 h17 lo17 W17 K17 q17
  obtain rfl := q17.2.2
  show Gl _ _ _ _ _ _ _ _ [(.int x2)]
  refine o_istoreN W17 (L' := #[vr a1, vi 1, vi 1, vi x2]) 45 (hb hy d5_44) rfl rfl ?_
  refine own_tst W17 hy ?_
  rw [own_ok1 hc18]
  refine o_istoreN W17 (L' := #[vr a1, vi 1, vi 1, vi x2]) 105 (hb hy d5_104) rfl rfl <| o_iinc W17 (v := 2) (L' := #[vr a1, vi 1, vi 2, vi x2]) 108 (hb hy d5_105) rfl (by decide) rfl rfl <| o_goto W17 27 (hb hy d5_108) (by decide) rfl <| o_iloadN W17 28 (hb hy d5_27) rfl rfl <| o_aloadN W17 29 (hb hy d5_28) rfl rfl rfl ?_
  have c19 := (c15.keep K17)
  have c20 := (c16.keep K17)
  refine o_virtualC W17 (w38 hw) (w39 hw) (o_nf W17 rfl (w41 hw)) (w41 hw) (w40 hw) (by decide) c20 (w42 hw) (w8 hw) (c19 _ W17.old (Keep.refl _ _)).2.1 1 0 0 (by decide) (by rw [hml]; rfl) (lenOf pd17 rfl) [(.int 2)] rfl rfl 32 (hb hy d5_29) rfl rfl rfl all0 tri ?_
  intro v21 T21 h21 lo21 W21 K21 q21
  obtain rfl := q21.2.2
  show Gl _ _ _ _ _ _ _ _ [(.int 3), (.int 2)]
  refine o_icmpN W21 35 (hb hy d5_32) (XT.ii_ge_f (by decide)) rfl <| o_iloadN W21 36 (hb hy d5_35) rfl rfl <| o_ifN W21 39 (hb hy d5_36) (XT.i0_eq_f (by decide)) rfl <| o_aloadN W21 40 (hb hy d5_39) rfl rfl rfl <| o_iloadN W21 41 (hb hy d5_40) rfl rfl ?_
  have c22 := (c19.keep K21)
  have c23 := (c20.keep K21)
  refine o_virtualC W21 (w49 hw) (w50 hw) (o_nf W21 rfl (w52 hw)) (w52 hw) (w51 hw) (by decide) c23 (w53 hw) (w8 hw) (al_h (al_t (al_t (c22 _ W21.old (Keep.refl _ _)).2.2))) 0 0 0 (by decide) (by rw [hml]; rfl) (lenOf pd18 rfl) [] rfl rfl 44 (hb hy d5_41) rfl rfl rfl all0 tri ?_
  intro v24 T24 h24 lo24 W24 K24 q24
  obtain rfl := q24.2.2
  show Gl _ _ _ _ _ _ _ _ [(.int x3)]
  refine o_istoreN W24 (L' := #[vr a1, vi 1, vi 2, vi x3]) 45 (hb hy d5_44) rfl rfl ?_
  refine own_tst W24 hy ?_
  rw [own_ok1 hc25]
  refine o_istoreN W24 (L' := #[vr a1, vi 1, vi 2, vi x3]) 105 (hb hy d5_104) rfl rfl <| o_iinc W24 (v := 3) (L' := #[vr a1, vi 1, vi 3, vi x3]) 108 (hb hy d5_105) rfl (by decide) rfl rfl <| o_goto W24 27 (hb hy d5_108) (by decide) rfl <| o_iloadN W24 28 (hb hy d5_27) rfl rfl <| o_aloadN W24 29 (hb hy d5_28) rfl rfl rfl ?_
  have c26 := (c22.keep K24)
  have c27 := (c23.keep K24)
  refine o_virtualC W24 (w38 hw) (w39 hw) (o_nf W24 rfl (w41 hw)) (w41 hw) (w40 hw) (by decide) c27 (w42 hw) (w8 hw) (c26 _ W24.old (Keep.refl _ _)).2.1 1 0 0 (by decide) (by rw [hml]; rfl) (lenOf pd17 rfl) [(.int 3)] rfl rfl 32 (hb hy d5_29) rfl rfl rfl all0 tri ?_
  intro v28 T28 h28 lo28 W28 K28 q28
  obtain rfl := q28.2.2
  show Gl _ _ _ _ _ _ _ _ [(.int 3), (.int 3)]
  refine o_icmpY W28 111 (hb hy d5_32) (XT.ii_ge_t (by decide)) (by decide) rfl <| o_iloadN W28 112 (hb hy d5_111) rfl rfl ?_
  exact o_retN W28 hlk (t := .boolean) hret (by simp) (z' := (1 : Int32)) (by decide) (hb hy d5_112) (by decide) (by decide) rfl
theorem rm140 (l : Launch) {Z a0} (hw : HW Z a0) (a1 a2 : Addr) (z0 : ClassId) (x1 x2 x3 x4 : Int32) (z1 : ClassId) (h0 : Heap) (O0 : Old Z Z.heap.size h0) (z2 : Arv Z h0 a1 z0 .char 4 [(.int x1), (.int x2), (.int x3), (.int x4)] iZ) (hu1 : own_c x1) (hc2 : ¬ ((255 : Int32) < x1)) (z3 : Arv Z h0 a2 z1 .byte 4 [iZ, iZ, iZ, iZ] iZ) (z4 : Z.heap.size ≤ a2) (z5 : a1 ≠ a2) (hu5 : own_c x2) (hc6 : ¬ ((255 : Int32) < x2)) (hu9 : own_c x3) (hc10 : ¬ ((255 : Int32) < x3)) (hu13 : own_c x4) (hc14 : ¬ ((255 : Int32) < x4)) :
    CtrN l Z mn8 jdk_52_method_21_code 7 (some .int) [] (⟨0, 0, 0, 0⟩ : Room) #[(.ref a1), iZ, (.ref a2), iZ, (.int 4)] h0 [a2] (fun v h => Arv Z h a2 z1 .byte 4 [(.int (bB x1)), (.int (bB x2)), (.int (bB x3)), (.int (bB x4))] iZ ∧ v = some (.int 4)) := by
  refine CtrN.intro (L0 := #[vr a1, vi 0, vr a2, vi 0, vi 4, un, un]) (plainFor_of_name pn3) O0 (own_entry rfl) ?_
  intro p e s m below meth c T0 hy hml hret hlk hnm W0
  refine o_iconst W0 (v := 0) 1 (hb hy d15_0) rfl rfl <| o_istore W0 (L' := #[vr a1, vi 0, vr a2, vi 0, vi 4, vi 0, un]) 3 (hb hy d15_1) rfl rfl <| o_iload W0 5 (hb hy d15_3) rfl rfl <| o_iload W0 7 (hb hy d15_5) rfl rfl <| o_icmpN W0 10 (hb hy d15_7) (XT.ii_ge_f (by decide)) rfl <| o_aloadN W0 11 (hb hy d15_10) rfl rfl rfl ?_
  refine o_iloadN W0 12 (hb hy d15_11) rfl rfl <| o_caload W0 z2 (x := x1) (i := 0) (by decide) (by decide) (by decide) rfl 13 (hb hy d15_12) rfl <| o_istore W0 (L' := #[vr a1, vi 0, vr a2, vi 0, vi 4, vi 0, vi x1]) 15 (hb hy d15_13) rfl rfl <| o_iload W0 17 (hb hy d15_15) rfl rfl <| o_sipush W0 (v := 255) 20 (hb hy d15_17) (by decide) rfl <| o_icmpY W0 26 (hb hy d15_20) (XT.ii_le_t (own_cb hu1 hc2).2) (by decide) rfl ?_
  refine o_aloadN W0 27 (hb hy d15_26) rfl rfl rfl <| o_iloadN W0 28 (hb hy d15_27) rfl rfl <| o_iload W0 30 (hb hy d15_28) rfl rfl <| o_i2b W0 (v := (bB x1)) 31 (hb hy d15_30) rfl rfl ?_
  refine o_stB W0 z3 (i := 0) (x' := (bB x1)) (by decide) (by decide) (by decide) (Nat.lt_of_sub_eq_succ rfl) (own_b8 _) (vs' := [(.int (bB x1)), iZ, iZ, iZ]) rfl z4 m0 tri 32 (hb hy d15_31) rfl ?_
  intro T3 h3 lo3 W3 R3 V3
  refine o_iinc W3 (v := 1) (L' := #[vr a1, vi 1, vr a2, vi 0, vi 4, vi 0, vi x1]) 35 (hb hy d15_32) rfl (by decide) rfl rfl <| o_iinc W3 (v := 1) (L' := #[vr a1, vi 1, vr a2, vi 1, vi 4, vi 0, vi x1]) 38 (hb hy d15_35) rfl (by decide) rfl rfl <| o_iinc W3 (v := 1) (L' := #[vr a1, vi 1, vr a2, vi 1, vi 4, vi 1, vi x1]) 41 (hb hy d15_38) rfl (by decide) rfl rfl <| o_goto W3 3 (hb hy d15_41) (by decide) rfl <| o_iload W3 5 (hb hy d15_3) rfl rfl <| o_iload W3 7 (hb hy d15_5) rfl rfl ?_
  refine o_icmpN W3 10 (hb hy d15_7) (XT.ii_ge_f (by decide)) rfl <| o_aloadN W3 11 (hb hy d15_10) rfl rfl rfl <| o_iloadN W3 12 (hb hy d15_11) rfl rfl ?_
  have c4 := (z2.other R3 z5)
  refine o_caload W3 c4 (x := x2) (i := 1) (by decide) (by decide) (by decide) rfl 13 (hb hy d15_12) rfl <| o_istore W3 (L' := #[vr a1, vi 1, vr a2, vi 1, vi 4, vi 1, vi x2]) 15 (hb hy d15_13) rfl rfl <| o_iload W3 17 (hb hy d15_15) rfl rfl <| o_sipush W3 (v := 255) 20 (hb hy d15_17) (by decide) rfl <| o_icmpY W3 26 (hb hy d15_20) (XT.ii_le_t (own_cb hu5 hc6).2) (by decide) rfl <| o_aloadN W3 27 (hb hy d15_26) rfl rfl rfl ?_
  refine o_iloadN W3 28 (hb hy d15_27) rfl rfl <| o_iload W3 30 (hb hy d15_28) rfl rfl <| o_i2b W3 (v := (bB x2)) 31 (hb hy d15_30) rfl rfl ?_
  refine o_stB W3 V3 (i := 1) (x' := (bB x2)) (by decide) (by decide) (by decide) (Nat.lt_of_sub_eq_succ rfl) (own_b8 _) (vs' := [(.int (bB x1)), (.int (bB x2)), iZ, iZ]) rfl z4 m0 tri 32 (hb hy d15_31) rfl ?_
  intro T7 h7 lo7 W7 R7 V7
  refine o_iinc W7 (v := 2) (L' := #[vr a1, vi 2, vr a2, vi 1, vi 4, vi 1, vi x2]) 35 (hb hy d15_32) rfl (by decide) rfl rfl <| o_iinc W7 (v := 2) (L' := #[vr a1, vi 2, vr a2, vi 2, vi 4, vi 1, vi x2]) 38 (hb hy d15_35) rfl (by decide) rfl rfl <| o_iinc W7 (v := 2) (L' := #[vr a1, vi 2, vr a2, vi 2, vi 4, vi 2, vi x2]) 41 (hb hy d15_38) rfl (by decide) rfl rfl <| o_goto W7 3 (hb hy d15_41) (by decide) rfl <| o_iload W7 5 (hb hy d15_3) rfl rfl <| o_iload W7 7 (hb hy d15_5) rfl rfl ?_
  refine o_icmpN W7 10 (hb hy d15_7) (XT.ii_ge_f (by decide)) rfl <| o_aloadN W7 11 (hb hy d15_10) rfl rfl rfl <| o_iloadN W7 12 (hb hy d15_11) rfl rfl ?_
  have c8 := (c4.other R7 z5)
  refine o_caload W7 c8 (x := x3) (i := 2) (by decide) (by decide) (by decide) rfl 13 (hb hy d15_12) rfl <| o_istore W7 (L' := #[vr a1, vi 2, vr a2, vi 2, vi 4, vi 2, vi x3]) 15 (hb hy d15_13) rfl rfl <| o_iload W7 17 (hb hy d15_15) rfl rfl <| o_sipush W7 (v := 255) 20 (hb hy d15_17) (by decide) rfl <| o_icmpY W7 26 (hb hy d15_20) (XT.ii_le_t (own_cb hu9 hc10).2) (by decide) rfl <| o_aloadN W7 27 (hb hy d15_26) rfl rfl rfl ?_
  refine o_iloadN W7 28 (hb hy d15_27) rfl rfl <| o_iload W7 30 (hb hy d15_28) rfl rfl <| o_i2b W7 (v := (bB x3)) 31 (hb hy d15_30) rfl rfl ?_
  refine o_stB W7 V7 (i := 2) (x' := (bB x3)) (by decide) (by decide) (by decide) (Nat.lt_of_sub_eq_succ rfl) (own_b8 _) (vs' := [(.int (bB x1)), (.int (bB x2)), (.int (bB x3)), iZ]) rfl z4 m0 tri 32 (hb hy d15_31) rfl ?_
  intro T11 h11 lo11 W11 R11 V11
  refine o_iinc W11 (v := 3) (L' := #[vr a1, vi 3, vr a2, vi 2, vi 4, vi 2, vi x3]) 35 (hb hy d15_32) rfl (by decide) rfl rfl <| o_iinc W11 (v := 3) (L' := #[vr a1, vi 3, vr a2, vi 3, vi 4, vi 2, vi x3]) 38 (hb hy d15_35) rfl (by decide) rfl rfl <| o_iinc W11 (v := 3) (L' := #[vr a1, vi 3, vr a2, vi 3, vi 4, vi 3, vi x3]) 41 (hb hy d15_38) rfl (by decide) rfl rfl <| o_goto W11 3 (hb hy d15_41) (by decide) rfl <| o_iload W11 5 (hb hy d15_3) rfl rfl <| o_iload W11 7 (hb hy d15_5) rfl rfl ?_
  refine o_icmpN W11 10 (hb hy d15_7) (XT.ii_ge_f (by decide)) rfl <| o_aloadN W11 11 (hb hy d15_10) rfl rfl rfl <| o_iloadN W11 12 (hb hy d15_11) rfl rfl ?_
  have c12 := (c8.other R11 z5)
  refine o_caload W11 c12 (x := x4) (i := 3) (by decide) (by decide) (by decide) rfl 13 (hb hy d15_12) rfl <| o_istore W11 (L' := #[vr a1, vi 3, vr a2, vi 3, vi 4, vi 3, vi x4]) 15 (hb hy d15_13) rfl rfl <| o_iload W11 17 (hb hy d15_15) rfl rfl <| o_sipush W11 (v := 255) 20 (hb hy d15_17) (by decide) rfl <| o_icmpY W11 26 (hb hy d15_20) (XT.ii_le_t (own_cb hu13 hc14).2) (by decide) rfl <| o_aloadN W11 27 (hb hy d15_26) rfl rfl rfl ?_
  refine o_iloadN W11 28 (hb hy d15_27) rfl rfl <| o_iload W11 30 (hb hy d15_28) rfl rfl <| o_i2b W11 (v := (bB x4)) 31 (hb hy d15_30) rfl rfl ?_
  refine o_stB W11 V11 (i := 3) (x' := (bB x4)) (by decide) (by decide) (by decide) (Nat.lt_of_sub_eq_succ rfl) (own_b8 _) (vs' := [(.int (bB x1)), (.int (bB x2)), (.int (bB x3)), (.int (bB x4))]) rfl z4 m0 tri 32 (hb hy d15_31) rfl ?_
  intro T15 h15 lo15 W15 R15 V15
  refine o_iinc W15 (v := 4) (L' := #[vr a1, vi 4, vr a2, vi 3, vi 4, vi 3, vi x4]) 35 (hb hy d15_32) rfl (by decide) rfl rfl <| o_iinc W15 (v := 4) (L' := #[vr a1, vi 4, vr a2, vi 4, vi 4, vi 3, vi x4]) 38 (hb hy d15_35) rfl (by decide) rfl rfl <| o_iinc W15 (v := 4) (L' := #[vr a1, vi 4, vr a2, vi 4, vi 4, vi 4, vi x4]) 41 (hb hy d15_38) rfl (by decide) rfl rfl <| o_goto W15 3 (hb hy d15_41) (by decide) rfl <| o_iload W15 5 (hb hy d15_3) rfl rfl <| o_iload W15 7 (hb hy d15_5) rfl rfl ?_
  refine o_icmpY W15 44 (hb hy d15_7) (XT.ii_ge_t (by decide)) (by decide) rfl <| o_iload W15 46 (hb hy d15_44) rfl rfl ?_
  exact o_retI W15 hlk hret (hb hy d15_46) (by decide) (by decide) ⟨V15, rfl⟩
theorem rm141 (l : Launch) {Z a0} (hw : HW Z a0) (a1 : Addr) (z0 : ClassId) (x1 x2 x3 x4 : Int32) (h0 : Heap) (O0 : Old Z Z.heap.size h0) (z1 : Arv Z h0 a1 z0 .char 4 [(.int x1), (.int x2), (.int x3), (.int x4)] iZ) (hu3 : own_c x1) (hc4 : ¬ ((255 : Int32) < x1)) (hu5 : own_c x2) (hc6 : ¬ ((255 : Int32) < x2)) (hu7 : own_c x3) (hc8 : ¬ ((255 : Int32) < x3)) (hu9 : own_c x4) (hc10 : ¬ ((255 : Int32) < x4)) :
    CtrN l Z mn9 jdk_52_method_16_code 6 (some (.array .byte)) [] (⟨1, 1, 4, 18⟩ : Room) #[(.ref a1), iZ, (.int 4)] h0 [] (fun v h => ∃ r1 : Addr, ∃ r2 : ClassId, h0.size ≤ r1 ∧ Arv Z h r1 r2 .byte 4 [(.int (bB x1)), (.int (bB x2)), (.int (bB x3)), (.int (bB x4))] iZ ∧ v = some (.ref r1)) := by
  refine CtrN.intro (L0 := #[vr a1, vi 0, vi 4, un, un, un]) (plainFor_of_name pn3) O0 (own_entry rfl) ?_
  intro p e s m below meth c T0 hy hml hret hlk hnm W0
  refine o_iloadN W0 1 (hb hy d14_0) rfl rfl ?_
  refine o_newP W0 (aty := .byte) (w20 hw) tri (by decide) (cap := 4) (by decide) (by decide) 3 (hb hy d14_1) rfl (cells' := 1) (slots' := 4) rfl rfl (by decide) (by decide) (vs := [iZ, iZ, iZ, iZ]) (dv := iZ) rfl rfl ?_
  intro b1 T1 h1 k1 W1 E1 ge1 gz1 gb1 V1
  refine o_astoreN W1 (L' := #[vr a1, vi 0, vi 4, vr b1, un, un]) 4 (hb hy d14_3) rfl rfl rfl <| o_aloadN W1 5 (hb hy d14_4) rfl rfl rfl <| o_iloadN W1 6 (hb hy d14_5) rfl rfl <| o_aloadN W1 7 (hb hy d14_6) rfl rfl rfl <| o_iconst W1 (v := 0) 8 (hb hy d14_7) rfl rfl <| o_iloadN W1 9 (hb hy d14_8) rfl rfl ?_
  have c2 := (z1.ext E1)
  refine o_staticC W1 (w75 hw) (w76 hw) (w73 hw) (w77 hw) (by decide) (rm140 l hw a1 b1 z0 x1 x2 x3 x4 k1 h1 W1.old c2 hu3 hc4 V1 gz1 (own_ne z1.lt ge1) hu5 hc6 hu7 hc8 hu9 hc10) 0 1 4 (by decide) (by rw [hml]; rfl) (lenOf pd5 rfl) [] rfl rfl 12 (hb hy d14_9) rfl rfl rfl (allS ⟨gz1, (Or.inr gb1)⟩ all0) tri ?_
  intro v11 T11 h11 lo11 W11 K11 q11
  obtain ⟨P11_0, rfl⟩ := q11.2.2
  show Gl _ _ _ _ _ _ _ _ [(.int 4)]
  refine o_istore W11 (L' := #[vr a1, vi 0, vi 4, vr b1, vi 4, un]) 14 (hb hy d14_12) rfl rfl <| o_iload W11 16 (hb hy d14_14) rfl rfl <| o_iloadN W11 17 (hb hy d14_16) rfl rfl <| o_icmpY W11 57 (hb hy d14_17) (XT.ii_eq_t (by decide)) (by decide) rfl <| o_aloadN W11 58 (hb hy d14_57) rfl rfl rfl ?_
  exact o_retA W11 hlk (v := (.ref b1)) hret rfl rfl (hb hy d14_58) (by decide) (by decide) ⟨b1, k1, gb1, P11_0, rfl⟩
theorem rm142 (l : Launch) {Z a0} (hw : HW Z a0) (a1 : Addr) (z0 : ClassId) (x1 x2 x3 x4 : Int32) (h0 : Heap) (O0 : Old Z Z.heap.size h0) (z1 : Arv Z h0 a1 z0 .byte 4 [(.int (bB x1)), (.int (bB x2)), (.int (bB x3)), (.int (bB x4))] iZ) :
    CtrN l Z mn10 jdk_52_method_15_code 2 (some .byte) [] (⟨0, 0, 0, 0⟩ : Room) #[(.ref a1), (.int 4)] h0 [] (fun v h => v = some iZ) := by
  refine CtrN.intro (L0 := #[vr a1, vi 4]) (plainFor_of_name pn3) O0 (own_entry rfl) ?_
  intro p e s m below meth c T0 hy hml hret hlk hnm W0
  refine o_iloadN W0 1 (hb hy d16_0) rfl rfl <| o_aloadN W0 2 (hb hy d16_1) rfl rfl rfl <| o_len W0 z1 3 (hb hy d16_2) rfl <| o_isub W0 (v := 0) 4 (hb hy d16_3) (by decide) rfl <| o_bipush W0 (v := 31) 6 (hb hy d16_4) (by decide) rfl <| o_iushr W0 (v := 0) 7 (hb hy d16_6) (by decide) rfl ?_
  refine o_i2b W0 (v := 0) 8 (hb hy d16_7) (by decide) rfl ?_
  exact o_retN W0 hlk (t := .byte) hret (by simp) (z' := (0 : Int32)) (by decide) (hb hy d16_8) (by decide) (by decide) rfl
theorem rm143 (l : Launch) {Z a0} (hw : HW Z a0) (gCS : Int32) (a1 a2 : Addr) (z0 : ClassId) (x1 x2 x3 x4 : Int32) (h0 : Heap) (O0 : Old Z Z.heap.size h0) (SgCS : Sta Z Z.heap s0 s8 "Z" (.int gCS)) (NgCS : ¬ (gCS = (0 : Int32))) (z1 : Arv Z h0 a2 z0 .char 4 [(.int x1), (.int x2), (.int x3), (.int x4)] iZ) (hu3 : own_c x1) (hc4 : ¬ ((255 : Int32) < x1)) (hu5 : own_c x2) (hc6 : ¬ ((255 : Int32) < x2)) (hu7 : own_c x3) (hc8 : ¬ ((255 : Int32) < x3)) (hu9 : own_c x4) (hc10 : ¬ ((255 : Int32) < x4)) (z2 : Exa Z h0 a1 s0) (z3 : Fld Z h0 a1 s0 "coder" "B" iZ) (z4 : Z.heap.size ≤ a1) (z5 : Fld Z h0 a1 s0 "value" "[B" .null) :
    CtrN l Z mn5 jdk_42_method_149_code 6 none [] (⟨2, 1, 4, 35⟩ : Room) #[(.ref a1), (.ref a2), iZ, (.int 4), .null] h0 [a1] (fun v h => ∃ r1 : Addr, ∃ r2 : ClassId, h0.size ≤ r1 ∧ Fld Z h a1 s0 "coder" "B" iZ ∧ Fld Z h a1 s0 "value" "[B" (.ref r1) ∧ Arv Z h r1 r2 .byte 4 [(.int (bB x1)), (.int (bB x2)), (.int (bB x3)), (.int (bB x4))] iZ ∧ v = none) := by
  refine CtrN.intro (L0 := #[vr a1, vr a2, vi 0, vi 4, .val .null, un]) (plainFor_of_name pn1) O0 (own_entry rfl) ?_
  intro p e s m below meth c T0 hy hml hret hlk hnm W0
  refine o_aloadN W0 1 (hb hy d3_0) rfl rfl rfl ?_
  refine o_initO W0 (w16 hw) (w17 hw) (w18 hw) (by rw [hml]; rfl) 4 (hb hy d3_1) rfl (by decide) 0 (by exact Nat.le_of_eq rfl) (by decide) ?_
  intro T1 W1
  refine o_iloadN W1 5 (hb hy d3_4) rfl rfl <| o_ifY W1 27 (hb hy d3_5) (XT.i0_ne_t (by decide)) (by decide) rfl ?_
  refine o_getS W1 (w48 hw) Via.refl (SgCS.ext W1.ox) 30 (hb hy d3_27) rfl ?_
  intro T2 W2
  refine o_ifN W2 33 (hb hy d3_30) (XT.i0_eq_f NgCS) rfl <| o_aloadN W2 34 (hb hy d3_33) rfl rfl rfl <| o_iloadN W2 35 (hb hy d3_34) rfl rfl <| o_iloadN W2 36 (hb hy d3_35) rfl rfl ?_
  refine o_staticC W2 (w71 hw) (w72 hw) (w73 hw) (w74 hw) (by decide) (rm141 l hw a2 z0 x1 x2 x3 x4 h0 W2.old z1 hu3 hc4 hu5 hc6 hu7 hc8 hu9 hc10) 0 1 4 (by decide) (by rw [hml]; rfl) (lenOf pd6 rfl) [] rfl rfl 39 (hb hy d3_36) rfl rfl rfl all0 tri ?_
  intro v11 T11 h11 lo11 W11 K11 q11
  obtain ⟨r1_11, r2_11, P11_0, P11_1, rfl⟩ := q11.2.2
  show Gl _ _ _ _ _ _ _ _ [(.ref r1_11)]
  refine o_astore W11 (L' := #[vr a1, vr a2, vi 0, vi 4, .val .null, vr r1_11]) 41 (hb hy d3_39) rfl rfl rfl <| o_aloadN W11 42 (hb hy d3_41) rfl rfl rfl <| o_aload W11 44 (hb hy d3_42) rfl rfl rfl <| o_iloadN W11 45 (hb hy d3_44) rfl rfl ?_
  refine o_staticC W11 (w78 hw) (w79 hw) (w73 hw) (w80 hw) (by decide) (rm142 l hw r1_11 r2_11 x1 x2 x3 x4 h11 W11.old P11_1) 1 1 4 (by decide) (by rw [hml]; rfl) (lenOf pd7 rfl) [(.ref a1)] rfl rfl 48 (hb hy d3_45) rfl rfl rfl all0 tri ?_
  intro v12 T12 h12 lo12 W12 K12 q12
  obtain rfl := q12.2.2
  show Gl _ _ _ _ _ _ _ _ [iZ, (.ref a1)]
  have c13 := ((z2.keep K11).keep K12)
  have c14 := ((z3.keep K11 nin0).keep K12 nin0)
  refine o_putF W12 (w26 hw) Via.refl c14 c13 (Or.inr ⟨(w22 hw), rfl, hnm⟩) (w7 hw) (ty := .byte) (v' := iZ) (by decide) rfl (by decide) z4 m0 tri 51 (hb hy d3_48) rfl ?_
  intro T15 h15 lo15 W15 R15
  have F15 := c14.same R15
  refine o_aloadN W15 52 (hb hy d3_51) rfl rfl rfl <| o_aload W15 54 (hb hy d3_52) rfl rfl rfl ?_
  have c16 := (c13.wr R15)
  have c17 := (((z5.keep K11 nin0).keep K12 nin0).other R15 (Or.inr (slot_ne (Or.inr (w21 hw)) (Or.inr (w22 hw)) (by decide) (t := (.array .byte)) (t' := .byte) (by decide) (by decide))))
  refine o_putF W15 (w25 hw) Via.refl c17 c16 (Or.inr ⟨(w21 hw), rfl, hnm⟩) (w7 hw) (ty := (.array .byte)) (v' := (.ref r1_11)) (by decide) rfl rfl z4 m0 tri 57 (hb hy d3_54) rfl ?_
  intro T18 h18 lo18 W18 R18
  have F18 := c17.same R18
  have c19 := (F15.other R18 (Or.inr (slot_ne (Or.inr (w22 hw)) (Or.inr (w21 hw)) (by decide) (t := .byte) (t' := (.array .byte)) (by decide) (by decide))))
  have c20 := (c16.wr R18)
  have c21 := (((P11_1.keep K12 nin0).other R15 (own_ne' z2.lt P11_0)).other R18 (own_ne' z2.lt P11_0))
  exact o_ret0 W18 hlk hret (hb hy d3_57) (by decide) (by decide) ⟨r1_11, r2_11, (Nat.le_trans W2.keep.1 P11_0), c19, F18, c21, rfl⟩
theorem rm144 (l : Launch) {Z a0} (hw : HW Z a0) (a1 a2 : Addr) (z0 : ClassId) (x1 x2 x3 x4 : Int32) (h0 : Heap) (O0 : Old Z Z.heap.size h0) (z1 : Fld Z h0 a1 s0 "value" "[B" (.ref a2)) (z2 : Arv Z h0 a2 z0 .byte 4 [(.int (bB x1)), (.int (bB x2)), (.int (bB x3)), (.int (bB x4))] iZ) :
    CtrN l Z mn0 jdk_42_method_55_code 1 (some .boolean) [] (⟨0, 0, 0, 0⟩ : Room) #[(.ref a1)] h0 [] (fun v h => v = some iZ) := by
  refine CtrN.intro (L0 := #[vr a1]) (plainFor_of_name pn1) O0 (own_entry rfl) ?_
  intro p e s m below meth c T0 hy hml hret hlk hnm W0
  refine o_aloadN W0 1 (hb hy d6_0) rfl rfl rfl ?_
  refine o_getF W0 (w25 hw) Via.refl z1 4 (hb hy d6_1) rfl ?_
  intro T1 W1
  refine o_len W1 z2 5 (hb hy d6_4) rfl <| o_ifY W1 12 (hb hy d6_5) (XT.i0_ne_t (by decide)) (by decide) rfl <| o_iconst W1 (v := 0) 13 (hb hy d6_12) rfl rfl ?_
  exact o_retN W1 hlk (t := .boolean) hret (by simp) (z' := (0 : Int32)) (by decide) (hb hy d6_13) (by decide) (by decide) rfl
theorem rm145 (l : Launch) {Z a0} (hw : HW Z a0) (gCS : Int32) (a1 a2 : Addr) (z0 : ClassId) (x1 x2 x3 x4 : Int32) (h0 : Heap) (O0 : Old Z Z.heap.size h0) (z1 : Fld Z h0 a1 s0 "value" "[B" (.ref a2)) (z2 : Arv Z h0 a2 z0 .byte 4 [(.int (bB x1)), (.int (bB x2)), (.int (bB x3)), (.int (bB x4))] iZ) (z3 : Exa Z h0 a1 s0) (SgCS : Sta Z Z.heap s0 s8 "Z" (.int gCS)) (NgCS : ¬ (gCS = (0 : Int32))) (z4 : Fld Z h0 a1 s0 "coder" "B" iZ) :
    CtrN l Z mn1 jdk_42_method_54_code 1 (some .int) [] (⟨1, 0, 0, 14⟩ : Room) #[(.ref a1)] h0 [] (fun v h => v = some (.int 4)) := by
  refine CtrN.intro (L0 := #[vr a1]) (plainFor_of_name pn1) O0 (own_entry rfl) ?_
  intro p e s m below meth c T0 hy hml hret hlk hnm W0
  refine o_aloadN W0 1 (hb hy d7_0) rfl rfl rfl ?_
  refine o_getF W0 (w25 hw) Via.refl z1 4 (hb hy d7_1) rfl ?_
  intro T1 W1
  refine o_len W1 z2 5 (hb hy d7_4) rfl <| o_aloadN W1 6 (hb hy d7_5) rfl rfl rfl ?_
  refine o_virtualC W1 (w43 hw) (w44 hw) (o_nf W1 rfl (w46 hw)) (w46 hw) (w45 hw) (by decide) z3 (w47 hw) (w8 hw) (rm12 l hw gCS a1 h0 W1.old SgCS NgCS z4) 1 0 0 (by decide) (by rw [hml]; rfl) (lenOf pd8 rfl) [(.int 4)] rfl rfl 9 (hb hy d7_6) rfl rfl rfl all0 tri ?_
  intro v2 T2 h2 lo2 W2 K2 q2
  obtain rfl := q2.2.2
  show Gl _ _ _ _ _ _ _ _ [iZ, (.int 4)]
  refine o_ishr W2 (v := 4) 10 (hb hy d7_9) (by decide) rfl ?_
  exact o_retI W2 hlk hret (hb hy d7_10) (by decide) (by decide) rfl
theorem rm146 (l : Launch) {Z a0} (hw : HW Z a0)  (h0 : Heap) (O0 : Old Z Z.heap.size h0) :
    CtrN l Z mn13 jdk_41_method_11_code 3 (some .int) [] (⟨0, 0, 0, 0⟩ : Room) #[iZ, (.int 4), .null] h0 [] (fun v h => v = some iZ) := by
  refine CtrN.intro (L0 := #[vi 0, vi 4, .val .null]) (plainFor_of_name pn4) O0 (own_entry rfl) ?_
  intro p e s m below meth c T0 hy hml hret hlk hnm W0
  refine o_iloadN W0 1 (hb hy d13_0) rfl rfl <| o_ifN W0 4 (hb hy d13_1) (XT.i0_lt_f (by decide)) rfl <| o_iloadN W0 5 (hb hy d13_4) rfl rfl <| o_iloadN W0 6 (hb hy d13_5) rfl rfl <| o_icmpY W0 16 (hb hy d13_6) (XT.ii_lt_t (by decide)) (by decide) rfl <| o_iloadN W0 17 (hb hy d13_16) rfl rfl ?_
  exact o_retI W0 hlk hret (hb hy d13_17) (by decide) (by decide) rfl
theorem rm147 (l : Launch) {Z a0} (hw : HW Z a0) (a1 : Addr) (h0 : Heap) (O0 : Old Z Z.heap.size h0) :
    CtrN l Z mn13 jdk_41_method_11_code 3 (some .int) [] (⟨0, 0, 0, 0⟩ : Room) #[iZ, (.int 4), (.ref a1)] h0 [] (fun v h => v = some iZ) := by
  refine CtrN.intro (L0 := #[vi 0, vi 4, vr a1]) (plainFor_of_name pn4) O0 (own_entry rfl) ?_
  intro p e s m below meth c T0 hy hml hret hlk hnm W0
  refine o_iloadN W0 1 (hb hy d13_0) rfl rfl <| o_ifN W0 4 (hb hy d13_1) (XT.i0_lt_f (by decide)) rfl <| o_iloadN W0 5 (hb hy d13_4) rfl rfl <| o_iloadN W0 6 (hb hy d13_5) rfl rfl <| o_icmpY W0 16 (hb hy d13_6) (XT.ii_lt_t (by decide)) (by decide) rfl <| o_iloadN W0 17 (hb hy d13_16) rfl rfl ?_
  exact o_retI W0 hlk hret (hb hy d13_17) (by decide) (by decide) rfl
theorem rm148 (l : Launch) {Z a0} (hw : HW Z a0) (gF : Value) (h0 : Heap) (O0 : Old Z Z.heap.size h0) (SgF : Sta Z Z.heap s2 s3 s4 gF) (NgF : gF.isRef = true) :
    CtrN l Z mn14 jdk_42_method_155_code 2 none [] (⟨1, 0, 0, 14⟩ : Room) #[iZ, (.int 4)] h0 [] (fun v h => v = none) := by
  refine CtrN.intro (L0 := #[vi 0, vi 4]) (plainFor_of_name pn1) O0 (own_entry rfl) ?_
  intro p e s m below meth c T0 hy hml hret hlk hnm W0
  refine o_iloadN W0 1 (hb hy d12_0) rfl rfl <| o_iloadN W0 2 (hb hy d12_1) rfl rfl ?_
  rcases ref_cases NgF with rfl | ⟨aF1, rfl⟩
  · refine o_getS W0 (w66 hw) Via.refl (SgF.ext W0.ox) 5 (hb hy d12_2) rfl ?_
    intro T2 W2
    refine o_staticC W2 (w68 hw) (w69 hw) (w67 hw) (w70 hw) (by decide) (rm146 l hw  h0 W2.old ) 0 0 0 (by decide) (by rw [hml]; rfl) (lenOf pd9 rfl) [] rfl rfl 8 (hb hy d12_5) rfl rfl rfl all0 tri ?_
    intro v3 T3 h3 lo3 W3 K3 q3
    obtain rfl := q3.2.2
    show Gl _ _ _ _ _ _ _ _ [iZ]
    refine o_pop W3 9 (hb hy d12_8) rfl rfl ?_
    exact o_ret0 W3 hlk hret (hb hy d12_9) (by decide) (by decide) rfl
  · refine o_getS W0 (w66 hw) Via.refl (SgF.ext W0.ox) 5 (hb hy d12_2) rfl ?_
    intro T4 W4
    refine o_staticC W4 (w68 hw) (w69 hw) (w67 hw) (w70 hw) (by decide) (rm147 l hw aF1 h0 W4.old ) 0 0 0 (by decide) (by rw [hml]; rfl) (lenOf pd9 rfl) [] rfl rfl 8 (hb hy d12_5) rfl rfl rfl all0 tri ?_
    intro v5 T5 h5 lo5 W5 K5 q5
    obtain rfl := q5.2.2
    show Gl _ _ _ _ _ _ _ _ [iZ]
    refine o_pop W5 9 (hb hy d12_8) rfl rfl ?_
    exact o_ret0 W5 hlk hret (hb hy d12_9) (by decide) (by decide) rfl
theorem rm149 (l : Launch) {Z a0} (hw : HW Z a0) (gF : Value) (a1 : Addr) (z0 : ClassId) (x1 x2 x3 x4 : Int32) (h0 : Heap) (O0 : Old Z Z.heap.size h0) (z1 : Arv Z h0 a1 z0 .byte 4 [(.int (bB x1)), (.int (bB x2)), (.int (bB x3)), (.int (bB x4))] iZ) (SgF : Sta Z Z.heap s2 s3 s4 gF) (NgF : gF.isRef = true) (hu3 : own_c x1) (hc4 : ¬ ((255 : Int32) < x1)) :
    CtrN l Z mn15 jdk_43_method_2_code 2 (some .char) [] (⟨2, 0, 0, 27⟩ : Room) #[(.ref a1), iZ] h0 [] (fun v h => v = some (.int x1)) := by
  refine CtrN.intro (L0 := #[vr a1, vi 0]) (plainFor_of_name pn5) O0 (own_entry rfl) ?_
  intro p e s m below meth c T0 hy hml hret hlk hnm W0
  refine o_iloadN W0 1 (hb hy d11_0) rfl rfl <| o_aloadN W0 2 (hb hy d11_1) rfl rfl rfl <| o_len W0 z1 3 (hb hy d11_2) rfl ?_
  refine o_staticC W0 (w63 hw) (w64 hw) (w8 hw) (w65 hw) (by decide) (rm148 l hw gF h0 W0.old SgF NgF) 0 0 0 (by decide) (by rw [hml]; rfl) (lenOf pd10 rfl) [] rfl rfl 6 (hb hy d11_3) rfl rfl rfl all0 tri ?_
  intro v1 T1 h1 lo1 W1 K1 q1
  obtain rfl := q1.2.2
  show Gl _ _ _ _ _ _ _ _ []
  refine o_aloadN W1 7 (hb hy d11_6) rfl rfl rfl <| o_iloadN W1 8 (hb hy d11_7) rfl rfl ?_
  have c2 := (z1.keep K1 nin0)
  refine o_baload W1 c2 (x := (bB x1)) (i := 0) (by decide) (by decide) (by decide) rfl 9 (hb hy d11_8) rfl <| o_sipush W1 (v := 255) 12 (hb hy d11_9) (by decide) rfl <| o_iand W1 (v := x1) 13 (hb hy d11_12) (own_lo8 (own_cb hu3 hc4)) rfl <| o_i2c W1 (v := x1) 14 (hb hy d11_13) (own_i2cc hu3) rfl ?_
  exact o_retN W1 hlk (t := .char) hret (by simp) (z' := x1) (own_i2cc hu3) (hb hy d11_14) (by decide) (by decide) rfl
theorem rm150 (l : Launch) {Z a0} (hw : HW Z a0) (gCS : Int32) (gF : Value) (a1 a2 : Addr) (z0 : ClassId) (x1 x2 x3 x4 : Int32) (h0 : Heap) (O0 : Old Z Z.heap.size h0) (z1 : Exa Z h0 a1 s0) (SgCS : Sta Z Z.heap s0 s8 "Z" (.int gCS)) (NgCS : ¬ (gCS = (0 : Int32))) (z2 : Fld Z h0 a1 s0 "coder" "B" iZ) (z3 : Fld Z h0 a1 s0 "value" "[B" (.ref a2)) (z4 : Arv Z h0 a2 z0 .byte 4 [(.int (bB x1)), (.int (bB x2)), (.int (bB x3)), (.int (bB x4))] iZ) (SgF : Sta Z Z.heap s2 s3 s4 gF) (NgF : gF.isRef = true) (hu5 : own_c x1) (hc6 : ¬ ((255 : Int32) < x1)) :
    CtrN l Z mn2 jdk_42_method_56_code 2 (some .char) [] (⟨5, 0, 0, 70⟩ : Room) #[(.ref a1), iZ] h0 [] (fun v h => v = some (.int x1)) := by
  refine CtrN.intro (L0 := #[vr a1, vi 0]) (plainFor_of_name pn1) O0 (own_entry rfl) ?_
  intro p e s m below meth c T0 hy hml hret hlk hnm W0
  refine o_aloadN W0 1 (hb hy d9_0) rfl rfl rfl ?_
  refine o_virtualC W0 (w54 hw) (w55 hw) (o_nf W0 rfl (w57 hw)) (w57 hw) (w56 hw) (by decide) z1 (w58 hw) (w8 hw) (rm14 l hw gCS a1 h0 W0.old SgCS NgCS z2) 0 0 0 (by decide) (by rw [hml]; rfl) (lenOf pd3 rfl) [] rfl rfl 4 (hb hy d9_1) rfl rfl rfl all0 tri ?_
  intro v1 T1 h1 lo1 W1 K1 q1
  obtain rfl := q1.2.2
  show Gl _ _ _ _ _ _ _ _ [(.int 1)]
  refine o_ifN W1 7 (hb hy d9_4) (XT.i0_eq_f (by decide)) rfl <| o_aloadN W1 8 (hb hy d9_7) rfl rfl rfl ?_
  have c2 := (z3.keep K1 nin0)
  refine o_getF W1 (w25 hw) Via.refl c2 11 (hb hy d9_8) rfl ?_
  intro T3 W3
  refine o_iloadN W3 12 (hb hy d9_11) rfl rfl ?_
  have c4 := (z4.keep K1 nin0)
  refine o_staticC W3 (w59 hw) (w60 hw) (w61 hw) (w62 hw) (by decide) (rm149 l hw gF a2 z0 x1 x2 x3 x4 h1 W3.old c4 SgF NgF hu5 hc6) 0 0 0 (by decide) (by rw [hml]; rfl) (lenOf pd11 rfl) [] rfl rfl 15 (hb hy d9_12) rfl rfl rfl all0 tri ?_
  intro v7 T7 h7 lo7 W7 K7 q7
  obtain rfl := q7.2.2
  show Gl _ _ _ _ _ _ _ _ [(.int x1)]
  exact o_retN W7 hlk (t := .char) hret (by simp) (z' := x1) (own_i2cc hu5) (hb hy d9_15) (by decide) (by decide) rfl
theorem rm151 (l : Launch) {Z a0} (hw : HW Z a0)  (h0 : Heap) (O0 : Old Z Z.heap.size h0) :
    CtrN l Z mn13 jdk_41_method_11_code 3 (some .int) [] (⟨0, 0, 0, 0⟩ : Room) #[(.int 1), (.int 4), .null] h0 [] (fun v h => v = some (.int 1)) := by
  refine CtrN.intro (L0 := #[vi 1, vi 4, .val .null]) (plainFor_of_name pn4) O0 (own_entry rfl) ?_
  intro p e s m below meth c T0 hy hml hret hlk hnm W0
  refine o_iloadN W0 1 (hb hy d13_0) rfl rfl <| o_ifN W0 4 (hb hy d13_1) (XT.i0_lt_f (by decide)) rfl <| o_iloadN W0 5 (hb hy d13_4) rfl rfl <| o_iloadN W0 6 (hb hy d13_5) rfl rfl <| o_icmpY W0 16 (hb hy d13_6) (XT.ii_lt_t (by decide)) (by decide) rfl <| o_iloadN W0 17 (hb hy d13_16) rfl rfl ?_
  exact o_retI W0 hlk hret (hb hy d13_17) (by decide) (by decide) rfl
theorem rm152 (l : Launch) {Z a0} (hw : HW Z a0) (a1 : Addr) (h0 : Heap) (O0 : Old Z Z.heap.size h0) :
    CtrN l Z mn13 jdk_41_method_11_code 3 (some .int) [] (⟨0, 0, 0, 0⟩ : Room) #[(.int 1), (.int 4), (.ref a1)] h0 [] (fun v h => v = some (.int 1)) := by
  refine CtrN.intro (L0 := #[vi 1, vi 4, vr a1]) (plainFor_of_name pn4) O0 (own_entry rfl) ?_
  intro p e s m below meth c T0 hy hml hret hlk hnm W0
  refine o_iloadN W0 1 (hb hy d13_0) rfl rfl <| o_ifN W0 4 (hb hy d13_1) (XT.i0_lt_f (by decide)) rfl <| o_iloadN W0 5 (hb hy d13_4) rfl rfl <| o_iloadN W0 6 (hb hy d13_5) rfl rfl <| o_icmpY W0 16 (hb hy d13_6) (XT.ii_lt_t (by decide)) (by decide) rfl <| o_iloadN W0 17 (hb hy d13_16) rfl rfl ?_
  exact o_retI W0 hlk hret (hb hy d13_17) (by decide) (by decide) rfl
theorem rm153 (l : Launch) {Z a0} (hw : HW Z a0) (gF : Value) (h0 : Heap) (O0 : Old Z Z.heap.size h0) (SgF : Sta Z Z.heap s2 s3 s4 gF) (NgF : gF.isRef = true) :
    CtrN l Z mn14 jdk_42_method_155_code 2 none [] (⟨1, 0, 0, 14⟩ : Room) #[(.int 1), (.int 4)] h0 [] (fun v h => v = none) := by
  refine CtrN.intro (L0 := #[vi 1, vi 4]) (plainFor_of_name pn1) O0 (own_entry rfl) ?_
  intro p e s m below meth c T0 hy hml hret hlk hnm W0
  refine o_iloadN W0 1 (hb hy d12_0) rfl rfl <| o_iloadN W0 2 (hb hy d12_1) rfl rfl ?_
  rcases ref_cases NgF with rfl | ⟨aF1, rfl⟩
  · refine o_getS W0 (w66 hw) Via.refl (SgF.ext W0.ox) 5 (hb hy d12_2) rfl ?_
    intro T2 W2
    refine o_staticC W2 (w68 hw) (w69 hw) (w67 hw) (w70 hw) (by decide) (rm151 l hw  h0 W2.old ) 0 0 0 (by decide) (by rw [hml]; rfl) (lenOf pd9 rfl) [] rfl rfl 8 (hb hy d12_5) rfl rfl rfl all0 tri ?_
    intro v3 T3 h3 lo3 W3 K3 q3
    obtain rfl := q3.2.2
    show Gl _ _ _ _ _ _ _ _ [(.int 1)]
    refine o_pop W3 9 (hb hy d12_8) rfl rfl ?_
    exact o_ret0 W3 hlk hret (hb hy d12_9) (by decide) (by decide) rfl
  · refine o_getS W0 (w66 hw) Via.refl (SgF.ext W0.ox) 5 (hb hy d12_2) rfl ?_
    intro T4 W4
    refine o_staticC W4 (w68 hw) (w69 hw) (w67 hw) (w70 hw) (by decide) (rm152 l hw aF1 h0 W4.old ) 0 0 0 (by decide) (by rw [hml]; rfl) (lenOf pd9 rfl) [] rfl rfl 8 (hb hy d12_5) rfl rfl rfl all0 tri ?_
    intro v5 T5 h5 lo5 W5 K5 q5
    obtain rfl := q5.2.2
    show Gl _ _ _ _ _ _ _ _ [(.int 1)]
    refine o_pop W5 9 (hb hy d12_8) rfl rfl ?_
    exact o_ret0 W5 hlk hret (hb hy d12_9) (by decide) (by decide) rfl
theorem rm154 (l : Launch) {Z a0} (hw : HW Z a0) (gF : Value) (a1 : Addr) (z0 : ClassId) (x1 x2 x3 x4 : Int32) (h0 : Heap) (O0 : Old Z Z.heap.size h0) (z1 : Arv Z h0 a1 z0 .byte 4 [(.int (bB x1)), (.int (bB x2)), (.int (bB x3)), (.int (bB x4))] iZ) (SgF : Sta Z Z.heap s2 s3 s4 gF) (NgF : gF.isRef = true) (hu3 : own_c x2) (hc4 : ¬ ((255 : Int32) < x2)) :
    CtrN l Z mn15 jdk_43_method_2_code 2 (some .char) [] (⟨2, 0, 0, 27⟩ : Room) #[(.ref a1), (.int 1)] h0 [] (fun v h => v = some (.int x2)) := by
  refine CtrN.intro (L0 := #[vr a1, vi 1]) (plainFor_of_name pn5) O0 (own_entry rfl) ?_
  intro p e s m below meth c T0 hy hml hret hlk hnm W0
  refine o_iloadN W0 1 (hb hy d11_0) rfl rfl <| o_aloadN W0 2 (hb hy d11_1) rfl rfl rfl <| o_len W0 z1 3 (hb hy d11_2) rfl ?_
  refine o_staticC W0 (w63 hw) (w64 hw) (w8 hw) (w65 hw) (by decide) (rm153 l hw gF h0 W0.old SgF NgF) 0 0 0 (by decide) (by rw [hml]; rfl) (lenOf pd10 rfl) [] rfl rfl 6 (hb hy d11_3) rfl rfl rfl all0 tri ?_
  intro v1 T1 h1 lo1 W1 K1 q1
  obtain rfl := q1.2.2
  show Gl _ _ _ _ _ _ _ _ []
  refine o_aloadN W1 7 (hb hy d11_6) rfl rfl rfl <| o_iloadN W1 8 (hb hy d11_7) rfl rfl ?_
  have c2 := (z1.keep K1 nin0)
  refine o_baload W1 c2 (x := (bB x2)) (i := 1) (by decide) (by decide) (by decide) rfl 9 (hb hy d11_8) rfl <| o_sipush W1 (v := 255) 12 (hb hy d11_9) (by decide) rfl <| o_iand W1 (v := x2) 13 (hb hy d11_12) (own_lo8 (own_cb hu3 hc4)) rfl <| o_i2c W1 (v := x2) 14 (hb hy d11_13) (own_i2cc hu3) rfl ?_
  exact o_retN W1 hlk (t := .char) hret (by simp) (z' := x2) (own_i2cc hu3) (hb hy d11_14) (by decide) (by decide) rfl
theorem rm155 (l : Launch) {Z a0} (hw : HW Z a0) (gCS : Int32) (gF : Value) (a1 a2 : Addr) (z0 : ClassId) (x1 x2 x3 x4 : Int32) (h0 : Heap) (O0 : Old Z Z.heap.size h0) (z1 : Exa Z h0 a1 s0) (SgCS : Sta Z Z.heap s0 s8 "Z" (.int gCS)) (NgCS : ¬ (gCS = (0 : Int32))) (z2 : Fld Z h0 a1 s0 "coder" "B" iZ) (z3 : Fld Z h0 a1 s0 "value" "[B" (.ref a2)) (z4 : Arv Z h0 a2 z0 .byte 4 [(.int (bB x1)), (.int (bB x2)), (.int (bB x3)), (.int (bB x4))] iZ) (SgF : Sta Z Z.heap s2 s3 s4 gF) (NgF : gF.isRef = true) (hu5 : own_c x2) (hc6 : ¬ ((255 : Int32) < x2)) :
    CtrN l Z mn2 jdk_42_method_56_code 2 (some .char) [] (⟨5, 0, 0, 70⟩ : Room) #[(.ref a1), (.int 1)] h0 [] (fun v h => v = some (.int x2)) := by
  refine CtrN.intro (L0 := #[vr a1, vi 1]) (plainFor_of_name pn1) O0 (own_entry rfl) ?_
  intro p e s m below meth c T0 hy hml hret hlk hnm W0
  refine o_aloadN W0 1 (hb hy d9_0) rfl rfl rfl ?_
  refine o_virtualC W0 (w54 hw) (w55 hw) (o_nf W0 rfl (w57 hw)) (w57 hw) (w56 hw) (by decide) z1 (w58 hw) (w8 hw) (rm14 l hw gCS a1 h0 W0.old SgCS NgCS z2) 0 0 0 (by decide) (by rw [hml]; rfl) (lenOf pd3 rfl) [] rfl rfl 4 (hb hy d9_1) rfl rfl rfl all0 tri ?_
  intro v1 T1 h1 lo1 W1 K1 q1
  obtain rfl := q1.2.2
  show Gl _ _ _ _ _ _ _ _ [(.int 1)]
  refine o_ifN W1 7 (hb hy d9_4) (XT.i0_eq_f (by decide)) rfl <| o_aloadN W1 8 (hb hy d9_7) rfl rfl rfl ?_
  have c2 := (z3.keep K1 nin0)
  refine o_getF W1 (w25 hw) Via.refl c2 11 (hb hy d9_8) rfl ?_
  intro T3 W3
  refine o_iloadN W3 12 (hb hy d9_11) rfl rfl ?_
  have c4 := (z4.keep K1 nin0)
  refine o_staticC W3 (w59 hw) (w60 hw) (w61 hw) (w62 hw) (by decide) (rm154 l hw gF a2 z0 x1 x2 x3 x4 h1 W3.old c4 SgF NgF hu5 hc6) 0 0 0 (by decide) (by rw [hml]; rfl) (lenOf pd11 rfl) [] rfl rfl 15 (hb hy d9_12) rfl rfl rfl all0 tri ?_
  intro v7 T7 h7 lo7 W7 K7 q7
  obtain rfl := q7.2.2
  show Gl _ _ _ _ _ _ _ _ [(.int x2)]
  exact o_retN W7 hlk (t := .char) hret (by simp) (z' := x2) (own_i2cc hu5) (hb hy d9_15) (by decide) (by decide) rfl
theorem rm156 (l : Launch) {Z a0} (hw : HW Z a0)  (h0 : Heap) (O0 : Old Z Z.heap.size h0) :
    CtrN l Z mn13 jdk_41_method_11_code 3 (some .int) [] (⟨0, 0, 0, 0⟩ : Room) #[(.int 2), (.int 4), .null] h0 [] (fun v h => v = some (.int 2)) := by
  refine CtrN.intro (L0 := #[vi 2, vi 4, .val .null]) (plainFor_of_name pn4) O0 (own_entry rfl) ?_
  intro p e s m below meth c T0 hy hml hret hlk hnm W0
  refine o_iloadN W0 1 (hb hy d13_0) rfl rfl <| o_ifN W0 4 (hb hy d13_1) (XT.i0_lt_f (by decide)) rfl <| o_iloadN W0 5 (hb hy d13_4) rfl rfl <| o_iloadN W0 6 (hb hy d13_5) rfl rfl <| o_icmpY W0 16 (hb hy d13_6) (XT.ii_lt_t (by decide)) (by decide) rfl <| o_iloadN W0 17 (hb hy d13_16) rfl rfl ?_
  exact o_retI W0 hlk hret (hb hy d13_17) (by decide) (by decide) rfl
theorem rm157 (l : Launch) {Z a0} (hw : HW Z a0) (a1 : Addr) (h0 : Heap) (O0 : Old Z Z.heap.size h0) :
    CtrN l Z mn13 jdk_41_method_11_code 3 (some .int) [] (⟨0, 0, 0, 0⟩ : Room) #[(.int 2), (.int 4), (.ref a1)] h0 [] (fun v h => v = some (.int 2)) := by
  refine CtrN.intro (L0 := #[vi 2, vi 4, vr a1]) (plainFor_of_name pn4) O0 (own_entry rfl) ?_
  intro p e s m below meth c T0 hy hml hret hlk hnm W0
  refine o_iloadN W0 1 (hb hy d13_0) rfl rfl <| o_ifN W0 4 (hb hy d13_1) (XT.i0_lt_f (by decide)) rfl <| o_iloadN W0 5 (hb hy d13_4) rfl rfl <| o_iloadN W0 6 (hb hy d13_5) rfl rfl <| o_icmpY W0 16 (hb hy d13_6) (XT.ii_lt_t (by decide)) (by decide) rfl <| o_iloadN W0 17 (hb hy d13_16) rfl rfl ?_
  exact o_retI W0 hlk hret (hb hy d13_17) (by decide) (by decide) rfl
theorem rm158 (l : Launch) {Z a0} (hw : HW Z a0) (gF : Value) (h0 : Heap) (O0 : Old Z Z.heap.size h0) (SgF : Sta Z Z.heap s2 s3 s4 gF) (NgF : gF.isRef = true) :
    CtrN l Z mn14 jdk_42_method_155_code 2 none [] (⟨1, 0, 0, 14⟩ : Room) #[(.int 2), (.int 4)] h0 [] (fun v h => v = none) := by
  refine CtrN.intro (L0 := #[vi 2, vi 4]) (plainFor_of_name pn1) O0 (own_entry rfl) ?_
  intro p e s m below meth c T0 hy hml hret hlk hnm W0
  refine o_iloadN W0 1 (hb hy d12_0) rfl rfl <| o_iloadN W0 2 (hb hy d12_1) rfl rfl ?_
  rcases ref_cases NgF with rfl | ⟨aF1, rfl⟩
  · refine o_getS W0 (w66 hw) Via.refl (SgF.ext W0.ox) 5 (hb hy d12_2) rfl ?_
    intro T2 W2
    refine o_staticC W2 (w68 hw) (w69 hw) (w67 hw) (w70 hw) (by decide) (rm156 l hw  h0 W2.old ) 0 0 0 (by decide) (by rw [hml]; rfl) (lenOf pd9 rfl) [] rfl rfl 8 (hb hy d12_5) rfl rfl rfl all0 tri ?_
    intro v3 T3 h3 lo3 W3 K3 q3
    obtain rfl := q3.2.2
    show Gl _ _ _ _ _ _ _ _ [(.int 2)]
    refine o_pop W3 9 (hb hy d12_8) rfl rfl ?_
    exact o_ret0 W3 hlk hret (hb hy d12_9) (by decide) (by decide) rfl
  · refine o_getS W0 (w66 hw) Via.refl (SgF.ext W0.ox) 5 (hb hy d12_2) rfl ?_
    intro T4 W4
    refine o_staticC W4 (w68 hw) (w69 hw) (w67 hw) (w70 hw) (by decide) (rm157 l hw aF1 h0 W4.old ) 0 0 0 (by decide) (by rw [hml]; rfl) (lenOf pd9 rfl) [] rfl rfl 8 (hb hy d12_5) rfl rfl rfl all0 tri ?_
    intro v5 T5 h5 lo5 W5 K5 q5
    obtain rfl := q5.2.2
    show Gl _ _ _ _ _ _ _ _ [(.int 2)]
    refine o_pop W5 9 (hb hy d12_8) rfl rfl ?_
    exact o_ret0 W5 hlk hret (hb hy d12_9) (by decide) (by decide) rfl
theorem rm159 (l : Launch) {Z a0} (hw : HW Z a0) (gF : Value) (a1 : Addr) (z0 : ClassId) (x1 x2 x3 x4 : Int32) (h0 : Heap) (O0 : Old Z Z.heap.size h0) (z1 : Arv Z h0 a1 z0 .byte 4 [(.int (bB x1)), (.int (bB x2)), (.int (bB x3)), (.int (bB x4))] iZ) (SgF : Sta Z Z.heap s2 s3 s4 gF) (NgF : gF.isRef = true) (hu3 : own_c x3) (hc4 : ¬ ((255 : Int32) < x3)) :
    CtrN l Z mn15 jdk_43_method_2_code 2 (some .char) [] (⟨2, 0, 0, 27⟩ : Room) #[(.ref a1), (.int 2)] h0 [] (fun v h => v = some (.int x3)) := by
  refine CtrN.intro (L0 := #[vr a1, vi 2]) (plainFor_of_name pn5) O0 (own_entry rfl) ?_
  intro p e s m below meth c T0 hy hml hret hlk hnm W0
  refine o_iloadN W0 1 (hb hy d11_0) rfl rfl <| o_aloadN W0 2 (hb hy d11_1) rfl rfl rfl <| o_len W0 z1 3 (hb hy d11_2) rfl ?_
  refine o_staticC W0 (w63 hw) (w64 hw) (w8 hw) (w65 hw) (by decide) (rm158 l hw gF h0 W0.old SgF NgF) 0 0 0 (by decide) (by rw [hml]; rfl) (lenOf pd10 rfl) [] rfl rfl 6 (hb hy d11_3) rfl rfl rfl all0 tri ?_
  intro v1 T1 h1 lo1 W1 K1 q1
  obtain rfl := q1.2.2
  show Gl _ _ _ _ _ _ _ _ []
  refine o_aloadN W1 7 (hb hy d11_6) rfl rfl rfl <| o_iloadN W1 8 (hb hy d11_7) rfl rfl ?_
  have c2 := (z1.keep K1 nin0)
  refine o_baload W1 c2 (x := (bB x3)) (i := 2) (by decide) (by decide) (by decide) rfl 9 (hb hy d11_8) rfl <| o_sipush W1 (v := 255) 12 (hb hy d11_9) (by decide) rfl <| o_iand W1 (v := x3) 13 (hb hy d11_12) (own_lo8 (own_cb hu3 hc4)) rfl <| o_i2c W1 (v := x3) 14 (hb hy d11_13) (own_i2cc hu3) rfl ?_
  exact o_retN W1 hlk (t := .char) hret (by simp) (z' := x3) (own_i2cc hu3) (hb hy d11_14) (by decide) (by decide) rfl
theorem rm160 (l : Launch) {Z a0} (hw : HW Z a0) (gCS : Int32) (gF : Value) (a1 a2 : Addr) (z0 : ClassId) (x1 x2 x3 x4 : Int32) (h0 : Heap) (O0 : Old Z Z.heap.size h0) (z1 : Exa Z h0 a1 s0) (SgCS : Sta Z Z.heap s0 s8 "Z" (.int gCS)) (NgCS : ¬ (gCS = (0 : Int32))) (z2 : Fld Z h0 a1 s0 "coder" "B" iZ) (z3 : Fld Z h0 a1 s0 "value" "[B" (.ref a2)) (z4 : Arv Z h0 a2 z0 .byte 4 [(.int (bB x1)), (.int (bB x2)), (.int (bB x3)), (.int (bB x4))] iZ) (SgF : Sta Z Z.heap s2 s3 s4 gF) (NgF : gF.isRef = true) (hu5 : own_c x3) (hc6 : ¬ ((255 : Int32) < x3)) :
    CtrN l Z mn2 jdk_42_method_56_code 2 (some .char) [] (⟨5, 0, 0, 70⟩ : Room) #[(.ref a1), (.int 2)] h0 [] (fun v h => v = some (.int x3)) := by
  refine CtrN.intro (L0 := #[vr a1, vi 2]) (plainFor_of_name pn1) O0 (own_entry rfl) ?_
  intro p e s m below meth c T0 hy hml hret hlk hnm W0
  refine o_aloadN W0 1 (hb hy d9_0) rfl rfl rfl ?_
  refine o_virtualC W0 (w54 hw) (w55 hw) (o_nf W0 rfl (w57 hw)) (w57 hw) (w56 hw) (by decide) z1 (w58 hw) (w8 hw) (rm14 l hw gCS a1 h0 W0.old SgCS NgCS z2) 0 0 0 (by decide) (by rw [hml]; rfl) (lenOf pd3 rfl) [] rfl rfl 4 (hb hy d9_1) rfl rfl rfl all0 tri ?_
  intro v1 T1 h1 lo1 W1 K1 q1
  obtain rfl := q1.2.2
  show Gl _ _ _ _ _ _ _ _ [(.int 1)]
  refine o_ifN W1 7 (hb hy d9_4) (XT.i0_eq_f (by decide)) rfl <| o_aloadN W1 8 (hb hy d9_7) rfl rfl rfl ?_
  have c2 := (z3.keep K1 nin0)
  refine o_getF W1 (w25 hw) Via.refl c2 11 (hb hy d9_8) rfl ?_
  intro T3 W3
  refine o_iloadN W3 12 (hb hy d9_11) rfl rfl ?_
  have c4 := (z4.keep K1 nin0)
  refine o_staticC W3 (w59 hw) (w60 hw) (w61 hw) (w62 hw) (by decide) (rm159 l hw gF a2 z0 x1 x2 x3 x4 h1 W3.old c4 SgF NgF hu5 hc6) 0 0 0 (by decide) (by rw [hml]; rfl) (lenOf pd11 rfl) [] rfl rfl 15 (hb hy d9_12) rfl rfl rfl all0 tri ?_
  intro v7 T7 h7 lo7 W7 K7 q7
  obtain rfl := q7.2.2
  show Gl _ _ _ _ _ _ _ _ [(.int x3)]
  exact o_retN W7 hlk (t := .char) hret (by simp) (z' := x3) (own_i2cc hu5) (hb hy d9_15) (by decide) (by decide) rfl
theorem rm161 (l : Launch) {Z a0} (hw : HW Z a0)  (h0 : Heap) (O0 : Old Z Z.heap.size h0) :
    CtrN l Z mn13 jdk_41_method_11_code 3 (some .int) [] (⟨0, 0, 0, 0⟩ : Room) #[(.int 3), (.int 4), .null] h0 [] (fun v h => v = some (.int 3)) := by
  refine CtrN.intro (L0 := #[vi 3, vi 4, .val .null]) (plainFor_of_name pn4) O0 (own_entry rfl) ?_
  intro p e s m below meth c T0 hy hml hret hlk hnm W0
  refine o_iloadN W0 1 (hb hy d13_0) rfl rfl <| o_ifN W0 4 (hb hy d13_1) (XT.i0_lt_f (by decide)) rfl <| o_iloadN W0 5 (hb hy d13_4) rfl rfl <| o_iloadN W0 6 (hb hy d13_5) rfl rfl <| o_icmpY W0 16 (hb hy d13_6) (XT.ii_lt_t (by decide)) (by decide) rfl <| o_iloadN W0 17 (hb hy d13_16) rfl rfl ?_
  exact o_retI W0 hlk hret (hb hy d13_17) (by decide) (by decide) rfl
theorem rm162 (l : Launch) {Z a0} (hw : HW Z a0) (a1 : Addr) (h0 : Heap) (O0 : Old Z Z.heap.size h0) :
    CtrN l Z mn13 jdk_41_method_11_code 3 (some .int) [] (⟨0, 0, 0, 0⟩ : Room) #[(.int 3), (.int 4), (.ref a1)] h0 [] (fun v h => v = some (.int 3)) := by
  refine CtrN.intro (L0 := #[vi 3, vi 4, vr a1]) (plainFor_of_name pn4) O0 (own_entry rfl) ?_
  intro p e s m below meth c T0 hy hml hret hlk hnm W0
  refine o_iloadN W0 1 (hb hy d13_0) rfl rfl <| o_ifN W0 4 (hb hy d13_1) (XT.i0_lt_f (by decide)) rfl <| o_iloadN W0 5 (hb hy d13_4) rfl rfl <| o_iloadN W0 6 (hb hy d13_5) rfl rfl <| o_icmpY W0 16 (hb hy d13_6) (XT.ii_lt_t (by decide)) (by decide) rfl <| o_iloadN W0 17 (hb hy d13_16) rfl rfl ?_
  exact o_retI W0 hlk hret (hb hy d13_17) (by decide) (by decide) rfl
theorem rm163 (l : Launch) {Z a0} (hw : HW Z a0) (gF : Value) (h0 : Heap) (O0 : Old Z Z.heap.size h0) (SgF : Sta Z Z.heap s2 s3 s4 gF) (NgF : gF.isRef = true) :
    CtrN l Z mn14 jdk_42_method_155_code 2 none [] (⟨1, 0, 0, 14⟩ : Room) #[(.int 3), (.int 4)] h0 [] (fun v h => v = none) := by
  refine CtrN.intro (L0 := #[vi 3, vi 4]) (plainFor_of_name pn1) O0 (own_entry rfl) ?_
  intro p e s m below meth c T0 hy hml hret hlk hnm W0
  refine o_iloadN W0 1 (hb hy d12_0) rfl rfl <| o_iloadN W0 2 (hb hy d12_1) rfl rfl ?_
  rcases ref_cases NgF with rfl | ⟨aF1, rfl⟩
  · refine o_getS W0 (w66 hw) Via.refl (SgF.ext W0.ox) 5 (hb hy d12_2) rfl ?_
    intro T2 W2
    refine o_staticC W2 (w68 hw) (w69 hw) (w67 hw) (w70 hw) (by decide) (rm161 l hw  h0 W2.old ) 0 0 0 (by decide) (by rw [hml]; rfl) (lenOf pd9 rfl) [] rfl rfl 8 (hb hy d12_5) rfl rfl rfl all0 tri ?_
    intro v3 T3 h3 lo3 W3 K3 q3
    obtain rfl := q3.2.2
    show Gl _ _ _ _ _ _ _ _ [(.int 3)]
    refine o_pop W3 9 (hb hy d12_8) rfl rfl ?_
    exact o_ret0 W3 hlk hret (hb hy d12_9) (by decide) (by decide) rfl
  · refine o_getS W0 (w66 hw) Via.refl (SgF.ext W0.ox) 5 (hb hy d12_2) rfl ?_
    intro T4 W4
    refine o_staticC W4 (w68 hw) (w69 hw) (w67 hw) (w70 hw) (by decide) (rm162 l hw aF1 h0 W4.old ) 0 0 0 (by decide) (by rw [hml]; rfl) (lenOf pd9 rfl) [] rfl rfl 8 (hb hy d12_5) rfl rfl rfl all0 tri ?_
    intro v5 T5 h5 lo5 W5 K5 q5
    obtain rfl := q5.2.2
    show Gl _ _ _ _ _ _ _ _ [(.int 3)]
    refine o_pop W5 9 (hb hy d12_8) rfl rfl ?_
    exact o_ret0 W5 hlk hret (hb hy d12_9) (by decide) (by decide) rfl
theorem rm164 (l : Launch) {Z a0} (hw : HW Z a0) (gF : Value) (a1 : Addr) (z0 : ClassId) (x1 x2 x3 x4 : Int32) (h0 : Heap) (O0 : Old Z Z.heap.size h0) (z1 : Arv Z h0 a1 z0 .byte 4 [(.int (bB x1)), (.int (bB x2)), (.int (bB x3)), (.int (bB x4))] iZ) (SgF : Sta Z Z.heap s2 s3 s4 gF) (NgF : gF.isRef = true) (hu3 : own_c x4) (hc4 : ¬ ((255 : Int32) < x4)) :
    CtrN l Z mn15 jdk_43_method_2_code 2 (some .char) [] (⟨2, 0, 0, 27⟩ : Room) #[(.ref a1), (.int 3)] h0 [] (fun v h => v = some (.int x4)) := by
  refine CtrN.intro (L0 := #[vr a1, vi 3]) (plainFor_of_name pn5) O0 (own_entry rfl) ?_
  intro p e s m below meth c T0 hy hml hret hlk hnm W0
  refine o_iloadN W0 1 (hb hy d11_0) rfl rfl <| o_aloadN W0 2 (hb hy d11_1) rfl rfl rfl <| o_len W0 z1 3 (hb hy d11_2) rfl ?_
  refine o_staticC W0 (w63 hw) (w64 hw) (w8 hw) (w65 hw) (by decide) (rm163 l hw gF h0 W0.old SgF NgF) 0 0 0 (by decide) (by rw [hml]; rfl) (lenOf pd10 rfl) [] rfl rfl 6 (hb hy d11_3) rfl rfl rfl all0 tri ?_
  intro v1 T1 h1 lo1 W1 K1 q1
  obtain rfl := q1.2.2
  show Gl _ _ _ _ _ _ _ _ []
  refine o_aloadN W1 7 (hb hy d11_6) rfl rfl rfl <| o_iloadN W1 8 (hb hy d11_7) rfl rfl ?_
  have c2 := (z1.keep K1 nin0)
  refine o_baload W1 c2 (x := (bB x4)) (i := 3) (by decide) (by decide) (by decide) rfl 9 (hb hy d11_8) rfl <| o_sipush W1 (v := 255) 12 (hb hy d11_9) (by decide) rfl <| o_iand W1 (v := x4) 13 (hb hy d11_12) (own_lo8 (own_cb hu3 hc4)) rfl <| o_i2c W1 (v := x4) 14 (hb hy d11_13) (own_i2cc hu3) rfl ?_
  exact o_retN W1 hlk (t := .char) hret (by simp) (z' := x4) (own_i2cc hu3) (hb hy d11_14) (by decide) (by decide) rfl
theorem rm165 (l : Launch) {Z a0} (hw : HW Z a0) (gCS : Int32) (gF : Value) (a1 a2 : Addr) (z0 : ClassId) (x1 x2 x3 x4 : Int32) (h0 : Heap) (O0 : Old Z Z.heap.size h0) (z1 : Exa Z h0 a1 s0) (SgCS : Sta Z Z.heap s0 s8 "Z" (.int gCS)) (NgCS : ¬ (gCS = (0 : Int32))) (z2 : Fld Z h0 a1 s0 "coder" "B" iZ) (z3 : Fld Z h0 a1 s0 "value" "[B" (.ref a2)) (z4 : Arv Z h0 a2 z0 .byte 4 [(.int (bB x1)), (.int (bB x2)), (.int (bB x3)), (.int (bB x4))] iZ) (SgF : Sta Z Z.heap s2 s3 s4 gF) (NgF : gF.isRef = true) (hu5 : own_c x4) (hc6 : ¬ ((255 : Int32) < x4)) :
    CtrN l Z mn2 jdk_42_method_56_code 2 (some .char) [] (⟨5, 0, 0, 70⟩ : Room) #[(.ref a1), (.int 3)] h0 [] (fun v h => v = some (.int x4)) := by
  refine CtrN.intro (L0 := #[vr a1, vi 3]) (plainFor_of_name pn1) O0 (own_entry rfl) ?_
  intro p e s m below meth c T0 hy hml hret hlk hnm W0
  refine o_aloadN W0 1 (hb hy d9_0) rfl rfl rfl ?_
  refine o_virtualC W0 (w54 hw) (w55 hw) (o_nf W0 rfl (w57 hw)) (w57 hw) (w56 hw) (by decide) z1 (w58 hw) (w8 hw) (rm14 l hw gCS a1 h0 W0.old SgCS NgCS z2) 0 0 0 (by decide) (by rw [hml]; rfl) (lenOf pd3 rfl) [] rfl rfl 4 (hb hy d9_1) rfl rfl rfl all0 tri ?_
  intro v1 T1 h1 lo1 W1 K1 q1
  obtain rfl := q1.2.2
  show Gl _ _ _ _ _ _ _ _ [(.int 1)]
  refine o_ifN W1 7 (hb hy d9_4) (XT.i0_eq_f (by decide)) rfl <| o_aloadN W1 8 (hb hy d9_7) rfl rfl rfl ?_
  have c2 := (z3.keep K1 nin0)
  refine o_getF W1 (w25 hw) Via.refl c2 11 (hb hy d9_8) rfl ?_
  intro T3 W3
  refine o_iloadN W3 12 (hb hy d9_11) rfl rfl ?_
  have c4 := (z4.keep K1 nin0)
  refine o_staticC W3 (w59 hw) (w60 hw) (w61 hw) (w62 hw) (by decide) (rm164 l hw gF a2 z0 x1 x2 x3 x4 h1 W3.old c4 SgF NgF hu5 hc6) 0 0 0 (by decide) (by rw [hml]; rfl) (lenOf pd11 rfl) [] rfl rfl 15 (hb hy d9_12) rfl rfl rfl all0 tri ?_
  intro v7 T7 h7 lo7 W7 K7 q7
  obtain rfl := q7.2.2
  show Gl _ _ _ _ _ _ _ _ [(.int x4)]
  exact o_retN W7 hlk (t := .char) hret (by simp) (z' := x4) (own_i2cc hu5) (hb hy d9_15) (by decide) (by decide) rfl
theorem rm166 (l : Launch) {Z a0} (hw : HW Z a0) (a1 a2 : Addr) (z0 : ClassId) (x1 x2 x3 x4 : Int32) (z1 : ClassId) (h0 : Heap) (O0 : Old Z Z.heap.size h0) (z2 : Arv Z h0 a1 z0 .char 4 [(.int x1), (.int x2), (.int x3), (.int x4)] iZ) (hu1 : own_c x1) (hc2 : ¬ ((255 : Int32) < x1)) (z3 : Arv Z h0 a2 z1 .byte 4 [iZ, iZ, iZ, iZ] iZ) (z4 : Z.heap.size ≤ a2) (z5 : a1 ≠ a2) (hu5 : own_c x2) (hc6 : ¬ ((255 : Int32) < x2)) (hu9 : own_c x3) (hc10 : ¬ ((255 : Int32) < x3)) (hu13 : own_c x4) (hc14 : (255 : Int32) < x4) :
    CtrN l Z mn8 jdk_52_method_21_code 7 (some .int) [] (⟨0, 0, 0, 0⟩ : Room) #[(.ref a1), iZ, (.ref a2), iZ, (.int 4)] h0 [a2] (fun v h => Arv Z h a2 z1 .byte 4 [(.int (bB x1)), (.int (bB x2)), (.int (bB x3)), iZ] iZ ∧ v = some (.int 3)) := by
  refine CtrN.intro (L0 := #[vr a1, vi 0, vr a2, vi 0, vi 4, un, un]) (plainFor_of_name pn3) O0 (own_entry rfl) ?_
  intro p e s m below meth c T0 hy hml hret hlk hnm W0
  refine o_iconst W0 (v := 0) 1 (hb hy d15_0) rfl rfl <| o_istore W0 (L' := #[vr a1, vi 0, vr a2, vi 0, vi 4, vi 0, un]) 3 (hb hy d15_1) rfl rfl <| o_iload W0 5 (hb hy d15_3) rfl rfl <| o_iload W0 7 (hb hy d15_5) rfl rfl <| o_icmpN W0 10 (hb hy d15_7) (XT.ii_ge_f (by decide)) rfl <| o_aloadN W0 11 (hb hy d15_10) rfl rfl rfl ?_
  refine o_iloadN W0 12 (hb hy d15_11) rfl rfl <| o_caload W0 z2 (x := x1) (i := 0) (by decide) (by decide) (by decide) rfl 13 (hb hy d15_12) rfl <| o_istore W0 (L' := #[vr a1, vi 0, vr a2, vi 0, vi 4, vi 0, vi x1]) 15 (hb hy d15_13) rfl rfl <| o_iload W0 17 (hb hy d15_15) rfl rfl <| o_sipush W0 (v := 255) 20 (hb hy d15_17) (by decide) rfl <| o_icmpY W0 26 (hb hy d15_20) (XT.ii_le_t (own_cb hu1 hc2).2) (by decide) rfl ?_
  refine o_aloadN W0 27 (hb hy d15_26) rfl rfl rfl <| o_iloadN W0 28 (hb hy d15_27) rfl rfl <| o_iload W0 30 (hb hy d15_28) rfl rfl <| o_i2b W0 (v := (bB x1)) 31 (hb hy d15_30) rfl rfl ?_
  refine o_stB W0 z3 (i := 0) (x' := (bB x1)) (by decide) (by decide) (by decide) (Nat.lt_of_sub_eq_succ rfl) (own_b8 _) (vs' := [(.int (bB x1)), iZ, iZ, iZ]) rfl z4 m0 tri 32 (hb hy d15_31) rfl ?_
  intro T3 h3 lo3 W3 R3 V3
  refine o_iinc W3 (v := 1) (L' := #[vr a1, vi 1, vr a2, vi 0, vi 4, vi 0, vi x1]) 35 (hb hy d15_32) rfl (by decide) rfl rfl <| o_iinc W3 (v := 1) (L' := #[vr a1, vi 1, vr a2, vi 1, vi 4, vi 0, vi x1]) 38 (hb hy d15_35) rfl (by decide) rfl rfl <| o_iinc W3 (v := 1) (L' := #[vr a1, vi 1, vr a2, vi 1, vi 4, vi 1, vi x1]) 41 (hb hy d15_38) rfl (by decide) rfl rfl <| o_goto W3 3 (hb hy d15_41) (by decide) rfl <| o_iload W3 5 (hb hy d15_3) rfl rfl <| o_iload W3 7 (hb hy d15_5) rfl rfl ?_
  refine o_icmpN W3 10 (hb hy d15_7) (XT.ii_ge_f (by decide)) rfl <| o_aloadN W3 11 (hb hy d15_10) rfl rfl rfl <| o_iloadN W3 12 (hb hy d15_11) rfl rfl ?_
  have c4 := (z2.other R3 z5)
  refine o_caload W3 c4 (x := x2) (i := 1) (by decide) (by decide) (by decide) rfl 13 (hb hy d15_12) rfl <| o_istore W3 (L' := #[vr a1, vi 1, vr a2, vi 1, vi 4, vi 1, vi x2]) 15 (hb hy d15_13) rfl rfl <| o_iload W3 17 (hb hy d15_15) rfl rfl <| o_sipush W3 (v := 255) 20 (hb hy d15_17) (by decide) rfl <| o_icmpY W3 26 (hb hy d15_20) (XT.ii_le_t (own_cb hu5 hc6).2) (by decide) rfl <| o_aloadN W3 27 (hb hy d15_26) rfl rfl rfl ?_
  refine o_iloadN W3 28 (hb hy d15_27) rfl rfl <| o_iload W3 30 (hb hy d15_28) rfl rfl <| o_i2b W3 (v := (bB x2)) 31 (hb hy d15_30) rfl rfl ?_
  refine o_stB W3 V3 (i := 1) (x' := (bB x2)) (by decide) (by decide) (by decide) (Nat.lt_of_sub_eq_succ rfl) (own_b8 _) (vs' := [(.int (bB x1)), (.int (bB x2)), iZ, iZ]) rfl z4 m0 tri 32 (hb hy d15_31) rfl ?_
  intro T7 h7 lo7 W7 R7 V7
  refine o_iinc W7 (v := 2) (L' := #[vr a1, vi 2, vr a2, vi 1, vi 4, vi 1, vi x2]) 35 (hb hy d15_32) rfl (by decide) rfl rfl <| o_iinc W7 (v := 2) (L' := #[vr a1, vi 2, vr a2, vi 2, vi 4, vi 1, vi x2]) 38 (hb hy d15_35) rfl (by decide) rfl rfl <| o_iinc W7 (v := 2) (L' := #[vr a1, vi 2, vr a2, vi 2, vi 4, vi 2, vi x2]) 41 (hb hy d15_38) rfl (by decide) rfl rfl <| o_goto W7 3 (hb hy d15_41) (by decide) rfl <| o_iload W7 5 (hb hy d15_3) rfl rfl <| o_iload W7 7 (hb hy d15_5) rfl rfl ?_
  refine o_icmpN W7 10 (hb hy d15_7) (XT.ii_ge_f (by decide)) rfl <| o_aloadN W7 11 (hb hy d15_10) rfl rfl rfl <| o_iloadN W7 12 (hb hy d15_11) rfl rfl ?_
  have c8 := (c4.other R7 z5)
  refine o_caload W7 c8 (x := x3) (i := 2) (by decide) (by decide) (by decide) rfl 13 (hb hy d15_12) rfl <| o_istore W7 (L' := #[vr a1, vi 2, vr a2, vi 2, vi 4, vi 2, vi x3]) 15 (hb hy d15_13) rfl rfl <| o_iload W7 17 (hb hy d15_15) rfl rfl <| o_sipush W7 (v := 255) 20 (hb hy d15_17) (by decide) rfl <| o_icmpY W7 26 (hb hy d15_20) (XT.ii_le_t (own_cb hu9 hc10).2) (by decide) rfl <| o_aloadN W7 27 (hb hy d15_26) rfl rfl rfl ?_
  refine o_iloadN W7 28 (hb hy d15_27) rfl rfl <| o_iload W7 30 (hb hy d15_28) rfl rfl <| o_i2b W7 (v := (bB x3)) 31 (hb hy d15_30) rfl rfl ?_
  refine o_stB W7 V7 (i := 2) (x' := (bB x3)) (by decide) (by decide) (by decide) (Nat.lt_of_sub_eq_succ rfl) (own_b8 _) (vs' := [(.int (bB x1)), (.int (bB x2)), (.int (bB x3)), iZ]) rfl z4 m0 tri 32 (hb hy d15_31) rfl ?_
  intro T11 h11 lo11 W11 R11 V11
  refine o_iinc W11 (v := 3) (L' := #[vr a1, vi 3, vr a2, vi 2, vi 4, vi 2, vi x3]) 35 (hb hy d15_32) rfl (by decide) rfl rfl <| o_iinc W11 (v := 3) (L' := #[vr a1, vi 3, vr a2, vi 3, vi 4, vi 2, vi x3]) 38 (hb hy d15_35) rfl (by decide) rfl rfl <| o_iinc W11 (v := 3) (L' := #[vr a1, vi 3, vr a2, vi 3, vi 4, vi 3, vi x3]) 41 (hb hy d15_38) rfl (by decide) rfl rfl <| o_goto W11 3 (hb hy d15_41) (by decide) rfl <| o_iload W11 5 (hb hy d15_3) rfl rfl <| o_iload W11 7 (hb hy d15_5) rfl rfl ?_
  refine o_icmpN W11 10 (hb hy d15_7) (XT.ii_ge_f (by decide)) rfl <| o_aloadN W11 11 (hb hy d15_10) rfl rfl rfl <| o_iloadN W11 12 (hb hy d15_11) rfl rfl ?_
  have c12 := (c8.other R11 z5)
  refine o_caload W11 c12 (x := x4) (i := 3) (by decide) (by decide) (by decide) rfl 13 (hb hy d15_12) rfl <| o_istore W11 (L' := #[vr a1, vi 3, vr a2, vi 3, vi 4, vi 3, vi x4]) 15 (hb hy d15_13) rfl rfl <| o_iload W11 17 (hb hy d15_15) rfl rfl <| o_sipush W11 (v := 255) 20 (hb hy d15_17) (by decide) rfl <| o_icmpN W11 23 (hb hy d15_20) (XT.ii_le_f hc14) rfl <| o_iload W11 25 (hb hy d15_23) rfl rfl ?_
  exact o_retI W11 hlk hret (hb hy d15_25) (by decide) (by decide) ⟨V11, rfl⟩
theorem rm167 (l : Launch) {Z a0} (hw : HW Z a0)  (h0 : Heap) (O0 : Old Z Z.heap.size h0) :
    CtrN l Z mn16 jdk_52_method_3_code 1 (some .int) [] (⟨0, 0, 0, 0⟩ : Room) #[(.int 4)] h0 [] (fun v h => v = some (.int 8)) := by
  refine CtrN.intro (L0 := #[vi 4]) (plainFor_of_name pn3) O0 (own_entry rfl) ?_
  intro p e s m below meth c T0 hy hml hret hlk hnm W0
  refine o_iloadN W0 1 (hb hy d20_0) rfl rfl <| o_ifY W0 12 (hb hy d20_1) (XT.i0_ge_t (by decide)) (by decide) rfl <| o_iloadN W0 13 (hb hy d20_12) rfl rfl <| o_ldcI W0 (w93 hw) 15 (hb hy d20_13) rfl <| o_icmpY W0 55 (hb hy d20_15) (XT.ii_lt_t (by decide)) (by decide) rfl <| o_iloadN W0 56 (hb hy d20_55) rfl rfl ?_
  refine o_iconst W0 (v := 1) 57 (hb hy d20_56) rfl rfl <| o_ishl W0 (v := 8) 58 (hb hy d20_57) (by decide) rfl ?_
  exact o_retI W0 hlk hret (hb hy d20_58) (by decide) (by decide) rfl
theorem rm168 (l : Launch) {Z a0} (hw : HW Z a0)  (h0 : Heap) (O0 : Old Z Z.heap.size h0) :
    CtrN l Z mn17 jdk_52_method_2_code 1 (some (.array .byte)) [] (⟨1, 1, 8, 12⟩ : Room) #[(.int 4)] h0 [] (fun v h => ∃ r1 : Addr, ∃ r2 : ClassId, h0.size ≤ r1 ∧ Arv Z h r1 r2 .byte 8 [iZ, iZ, iZ, iZ, iZ, iZ, iZ, iZ] iZ ∧ v = some (.ref r1)) := by
  refine CtrN.intro (L0 := #[vi 4]) (plainFor_of_name pn3) O0 (own_entry rfl) ?_
  intro p e s m below meth c T0 hy hml hret hlk hnm W0
  refine o_iloadN W0 1 (hb hy d19_0) rfl rfl ?_
  refine o_staticC W0 (w90 hw) (w91 hw) (w73 hw) (w92 hw) (by decide) (rm167 l hw  h0 W0.old ) 0 0 0 (by decide) (by rw [hml]; rfl) (lenOf pd12 rfl) [] rfl rfl 4 (hb hy d19_1) rfl rfl rfl all0 tri ?_
  intro v1 T1 h1 lo1 W1 K1 q1
  obtain rfl := q1.2.2
  show Gl _ _ _ _ _ _ _ _ [(.int 8)]
  refine o_newP W1 (aty := .byte) (w20 hw) tri (by decide) (cap := 8) (by decide) (by decide) 6 (hb hy d19_4) rfl (cells' := 1) (slots' := 8) rfl rfl (by decide) (by decide) (vs := [iZ, iZ, iZ, iZ, iZ, iZ, iZ, iZ]) (dv := iZ) rfl rfl ?_
  intro b2 T2 h2 k2 W2 E2 ge2 gz2 gb2 V2
  exact o_retA W2 hlk (v := (.ref b2)) hret rfl rfl (hb hy d19_6) (by decide) (by decide) ⟨b2, k2, gb2, V2, rfl⟩
theorem rm169 (l : Launch) {Z a0} (hw : HW Z a0) (a1 : Addr) (x1 : Int32) (z0 : ClassId) (h0 : Heap) (O0 : Old Z Z.heap.size h0) (z1 : Sta Z Z.heap s1 s5 "Z" (.int 1)) (z2 : Sta Z Z.heap s1 s6 "I" iZ) (z3 : Arv Z h0 a1 z0 .byte 8 [iZ, iZ, iZ, iZ, iZ, iZ, iZ, iZ] iZ) (z4 : Z.heap.size ≤ a1) (z5 : Sta Z Z.heap s1 s7 "I" (.int 8)) :
    CtrN l Z mn18 jdk_52_method_4_code 3 none [] (⟨0, 0, 0, 0⟩ : Room) #[(.ref a1), iZ, (.int x1)] h0 [a1] (fun v h => Arv Z h a1 z0 .byte 8 [(.int (bH x1)), (.int (bL x1)), iZ, iZ, iZ, iZ, iZ, iZ] iZ ∧ v = none) := by
  refine CtrN.intro (L0 := #[vr a1, vi 0, vi x1]) (plainFor_of_name pn3) O0 (own_entry rfl) ?_
  intro p e s m below meth c T0 hy hml hret hlk hnm W0
  refine o_getS W0 (w97 hw) Via.refl (z1.ext W0.ox) 3 (hb hy d21_0) rfl ?_
  intro T1 W1
  refine o_ifY W1 28 (hb hy d21_3) (XT.i0_ne_t (by decide)) (by decide) rfl <| o_iloadN W1 29 (hb hy d21_28) rfl rfl <| o_iconst W1 (v := 1) 30 (hb hy d21_29) rfl rfl <| o_ishl W1 (v := 0) 31 (hb hy d21_30) (by decide) rfl <| o_istoreN W1 (L' := #[vr a1, vi 0, vi x1]) 32 (hb hy d21_31) rfl rfl <| o_aloadN W1 33 (hb hy d21_32) rfl rfl rfl ?_
  refine o_iloadN W1 34 (hb hy d21_33) rfl rfl <| o_iinc W1 (v := 1) (L' := #[vr a1, vi 1, vi x1]) 37 (hb hy d21_34) rfl (by decide) rfl rfl <| o_iloadN W1 38 (hb hy d21_37) rfl rfl ?_
  refine o_getS W1 (w98 hw) Via.refl (z2.ext W1.ox) 41 (hb hy d21_38) rfl ?_
  intro T2 W2
  refine o_ishr W2 (v := (x1 >>> ((0 : Int32) &&& 31))) 42 (hb hy d21_41) rfl rfl <| o_i2b W2 (v := (bH x1)) 43 (hb hy d21_42) rfl rfl ?_
  refine o_stB W2 z3 (i := 0) (x' := (bH x1)) (by decide) (by decide) (by decide) (Nat.lt_of_sub_eq_succ rfl) (own_b8 _) (vs' := [(.int (bH x1)), iZ, iZ, iZ, iZ, iZ, iZ, iZ]) rfl z4 m0 tri 44 (hb hy d21_43) rfl ?_
  intro T3 h3 lo3 W3 R3 V3
  refine o_aloadN W3 45 (hb hy d21_44) rfl rfl rfl <| o_iloadN W3 46 (hb hy d21_45) rfl rfl <| o_iloadN W3 47 (hb hy d21_46) rfl rfl ?_
  refine o_getS W3 (w99 hw) Via.refl (z5.ext W3.ox) 50 (hb hy d21_47) rfl ?_
  intro T4 W4
  refine o_ishr W4 (v := (x1 >>> ((8 : Int32) &&& 31))) 51 (hb hy d21_50) rfl rfl <| o_i2b W4 (v := (bL x1)) 52 (hb hy d21_51) rfl rfl ?_
  refine o_stB W4 V3 (i := 1) (x' := (bL x1)) (by decide) (by decide) (by decide) (Nat.lt_of_sub_eq_succ rfl) (own_b8 _) (vs' := [(.int (bH x1)), (.int (bL x1)), iZ, iZ, iZ, iZ, iZ, iZ]) rfl z4 m0 tri 53 (hb hy d21_52) rfl ?_
  intro T5 h5 lo5 W5 R5 V5
  exact o_ret0 W5 hlk hret (hb hy d21_53) (by decide) (by decide) ⟨V5, rfl⟩
theorem rm170 (l : Launch) {Z a0} (hw : HW Z a0) (a1 : Addr) (x1 : Int32) (z0 : ClassId) (x2 : Int32) (h0 : Heap) (O0 : Old Z Z.heap.size h0) (z1 : Sta Z Z.heap s1 s5 "Z" (.int 1)) (z2 : Sta Z Z.heap s1 s6 "I" iZ) (z3 : Arv Z h0 a1 z0 .byte 8 [(.int (bH x2)), (.int (bL x2)), iZ, iZ, iZ, iZ, iZ, iZ] iZ) (z4 : Z.heap.size ≤ a1) (z5 : Sta Z Z.heap s1 s7 "I" (.int 8)) :
    CtrN l Z mn18 jdk_52_method_4_code 3 none [] (⟨0, 0, 0, 0⟩ : Room) #[(.ref a1), (.int 1), (.int x1)] h0 [a1] (fun v h => Arv Z h a1 z0 .byte 8 [(.int (bH x2)), (.int (bL x2)), (.int (bH x1)), (.int (bL x1)), iZ, iZ, iZ, iZ] iZ ∧ v = none) := by
  refine CtrN.intro (L0 := #[vr a1, vi 1, vi x1]) (plainFor_of_name pn3) O0 (own_entry rfl) ?_
  intro p e s m below meth c T0 hy hml hret hlk hnm W0
  refine o_getS W0 (w97 hw) Via.refl (z1.ext W0.ox) 3 (hb hy d21_0) rfl ?_
  intro T1 W1
  refine o_ifY W1 28 (hb hy d21_3) (XT.i0_ne_t (by decide)) (by decide) rfl <| o_iloadN W1 29 (hb hy d21_28) rfl rfl <| o_iconst W1 (v := 1) 30 (hb hy d21_29) rfl rfl <| o_ishl W1 (v := 2) 31 (hb hy d21_30) (by decide) rfl <| o_istoreN W1 (L' := #[vr a1, vi 2, vi x1]) 32 (hb hy d21_31) rfl rfl <| o_aloadN W1 33 (hb hy d21_32) rfl rfl rfl ?_
  refine o_iloadN W1 34 (hb hy d21_33) rfl rfl <| o_iinc W1 (v := 3) (L' := #[vr a1, vi 3, vi x1]) 37 (hb hy d21_34) rfl (by decide) rfl rfl <| o_iloadN W1 38 (hb hy d21_37) rfl rfl ?_
  refine o_getS W1 (w98 hw) Via.refl (z2.ext W1.ox) 41 (hb hy d21_38) rfl ?_
  intro T2 W2
  refine o_ishr W2 (v := (x1 >>> ((0 : Int32) &&& 31))) 42 (hb hy d21_41) rfl rfl <| o_i2b W2 (v := (bH x1)) 43 (hb hy d21_42) rfl rfl ?_
  refine o_stB W2 z3 (i := 2) (x' := (bH x1)) (by decide) (by decide) (by decide) (Nat.lt_of_sub_eq_succ rfl) (own_b8 _) (vs' := [(.int (bH x2)), (.int (bL x2)), (.int (bH x1)), iZ, iZ, iZ, iZ, iZ]) rfl z4 m0 tri 44 (hb hy d21_43) rfl ?_
  intro T3 h3 lo3 W3 R3 V3
  refine o_aloadN W3 45 (hb hy d21_44) rfl rfl rfl <| o_iloadN W3 46 (hb hy d21_45) rfl rfl <| o_iloadN W3 47 (hb hy d21_46) rfl rfl ?_
  refine o_getS W3 (w99 hw) Via.refl (z5.ext W3.ox) 50 (hb hy d21_47) rfl ?_
  intro T4 W4
  refine o_ishr W4 (v := (x1 >>> ((8 : Int32) &&& 31))) 51 (hb hy d21_50) rfl rfl <| o_i2b W4 (v := (bL x1)) 52 (hb hy d21_51) rfl rfl ?_
  refine o_stB W4 V3 (i := 3) (x' := (bL x1)) (by decide) (by decide) (by decide) (Nat.lt_of_sub_eq_succ rfl) (own_b8 _) (vs' := [(.int (bH x2)), (.int (bL x2)), (.int (bH x1)), (.int (bL x1)), iZ, iZ, iZ, iZ]) rfl z4 m0 tri 53 (hb hy d21_52) rfl ?_
  intro T5 h5 lo5 W5 R5 V5
  exact o_ret0 W5 hlk hret (hb hy d21_53) (by decide) (by decide) ⟨V5, rfl⟩
theorem rm171 (l : Launch) {Z a0} (hw : HW Z a0) (a1 : Addr) (x1 : Int32) (z0 : ClassId) (x2 x3 : Int32) (h0 : Heap) (O0 : Old Z Z.heap.size h0) (z1 : Sta Z Z.heap s1 s5 "Z" (.int 1)) (z2 : Sta Z Z.heap s1 s6 "I" iZ) (z3 : Arv Z h0 a1 z0 .byte 8 [(.int (bH x2)), (.int (bL x2)), (.int (bH x3)), (.int (bL x3)), iZ, iZ, iZ, iZ] iZ) (z4 : Z.heap.size ≤ a1) (z5 : Sta Z Z.heap s1 s7 "I" (.int 8)) :
    CtrN l Z mn18 jdk_52_method_4_code 3 none [] (⟨0, 0, 0, 0⟩ : Room) #[(.ref a1), (.int 2), (.int x1)] h0 [a1] (fun v h => Arv Z h a1 z0 .byte 8 [(.int (bH x2)), (.int (bL x2)), (.int (bH x3)), (.int (bL x3)), (.int (bH x1)), (.int (bL x1)), iZ, iZ] iZ ∧ v = none) := by
  refine CtrN.intro (L0 := #[vr a1, vi 2, vi x1]) (plainFor_of_name pn3) O0 (own_entry rfl) ?_
  intro p e s m below meth c T0 hy hml hret hlk hnm W0
  refine o_getS W0 (w97 hw) Via.refl (z1.ext W0.ox) 3 (hb hy d21_0) rfl ?_
  intro T1 W1
  refine o_ifY W1 28 (hb hy d21_3) (XT.i0_ne_t (by decide)) (by decide) rfl <| o_iloadN W1 29 (hb hy d21_28) rfl rfl <| o_iconst W1 (v := 1) 30 (hb hy d21_29) rfl rfl <| o_ishl W1 (v := 4) 31 (hb hy d21_30) (by decide) rfl <| o_istoreN W1 (L' := #[vr a1, vi 4, vi x1]) 32 (hb hy d21_31) rfl rfl <| o_aloadN W1 33 (hb hy d21_32) rfl rfl rfl ?_
  refine o_iloadN W1 34 (hb hy d21_33) rfl rfl <| o_iinc W1 (v := 5) (L' := #[vr a1, vi 5, vi x1]) 37 (hb hy d21_34) rfl (by decide) rfl rfl <| o_iloadN W1 38 (hb hy d21_37) rfl rfl ?_
  refine o_getS W1 (w98 hw) Via.refl (z2.ext W1.ox) 41 (hb hy d21_38) rfl ?_
  intro T2 W2
  refine o_ishr W2 (v := (x1 >>> ((0 : Int32) &&& 31))) 42 (hb hy d21_41) rfl rfl <| o_i2b W2 (v := (bH x1)) 43 (hb hy d21_42) rfl rfl ?_
  refine o_stB W2 z3 (i := 4) (x' := (bH x1)) (by decide) (by decide) (by decide) (Nat.lt_of_sub_eq_succ rfl) (own_b8 _) (vs' := [(.int (bH x2)), (.int (bL x2)), (.int (bH x3)), (.int (bL x3)), (.int (bH x1)), iZ, iZ, iZ]) rfl z4 m0 tri 44 (hb hy d21_43) rfl ?_
  intro T3 h3 lo3 W3 R3 V3
  refine o_aloadN W3 45 (hb hy d21_44) rfl rfl rfl <| o_iloadN W3 46 (hb hy d21_45) rfl rfl <| o_iloadN W3 47 (hb hy d21_46) rfl rfl ?_
  refine o_getS W3 (w99 hw) Via.refl (z5.ext W3.ox) 50 (hb hy d21_47) rfl ?_
  intro T4 W4
  refine o_ishr W4 (v := (x1 >>> ((8 : Int32) &&& 31))) 51 (hb hy d21_50) rfl rfl <| o_i2b W4 (v := (bL x1)) 52 (hb hy d21_51) rfl rfl ?_
  refine o_stB W4 V3 (i := 5) (x' := (bL x1)) (by decide) (by decide) (by decide) (Nat.lt_of_sub_eq_succ rfl) (own_b8 _) (vs' := [(.int (bH x2)), (.int (bL x2)), (.int (bH x3)), (.int (bL x3)), (.int (bH x1)), (.int (bL x1)), iZ, iZ]) rfl z4 m0 tri 53 (hb hy d21_52) rfl ?_
  intro T5 h5 lo5 W5 R5 V5
  exact o_ret0 W5 hlk hret (hb hy d21_53) (by decide) (by decide) ⟨V5, rfl⟩
theorem rm172 (l : Launch) {Z a0} (hw : HW Z a0) (a1 : Addr) (x1 : Int32) (z0 : ClassId) (x2 x3 x4 : Int32) (h0 : Heap) (O0 : Old Z Z.heap.size h0) (z1 : Sta Z Z.heap s1 s5 "Z" (.int 1)) (z2 : Sta Z Z.heap s1 s6 "I" iZ) (z3 : Arv Z h0 a1 z0 .byte 8 [(.int (bH x2)), (.int (bL x2)), (.int (bH x3)), (.int (bL x3)), (.int (bH x4)), (.int (bL x4)), iZ, iZ] iZ) (z4 : Z.heap.size ≤ a1) (z5 : Sta Z Z.heap s1 s7 "I" (.int 8)) :
    CtrN l Z mn18 jdk_52_method_4_code 3 none [] (⟨0, 0, 0, 0⟩ : Room) #[(.ref a1), (.int 3), (.int x1)] h0 [a1] (fun v h => Arv Z h a1 z0 .byte 8 [(.int (bH x2)), (.int (bL x2)), (.int (bH x3)), (.int (bL x3)), (.int (bH x4)), (.int (bL x4)), (.int (bH x1)), (.int (bL x1))] iZ ∧ v = none) := by
  refine CtrN.intro (L0 := #[vr a1, vi 3, vi x1]) (plainFor_of_name pn3) O0 (own_entry rfl) ?_
  intro p e s m below meth c T0 hy hml hret hlk hnm W0
  refine o_getS W0 (w97 hw) Via.refl (z1.ext W0.ox) 3 (hb hy d21_0) rfl ?_
  intro T1 W1
  refine o_ifY W1 28 (hb hy d21_3) (XT.i0_ne_t (by decide)) (by decide) rfl <| o_iloadN W1 29 (hb hy d21_28) rfl rfl <| o_iconst W1 (v := 1) 30 (hb hy d21_29) rfl rfl <| o_ishl W1 (v := 6) 31 (hb hy d21_30) (by decide) rfl <| o_istoreN W1 (L' := #[vr a1, vi 6, vi x1]) 32 (hb hy d21_31) rfl rfl <| o_aloadN W1 33 (hb hy d21_32) rfl rfl rfl ?_
  refine o_iloadN W1 34 (hb hy d21_33) rfl rfl <| o_iinc W1 (v := 7) (L' := #[vr a1, vi 7, vi x1]) 37 (hb hy d21_34) rfl (by decide) rfl rfl <| o_iloadN W1 38 (hb hy d21_37) rfl rfl ?_
  refine o_getS W1 (w98 hw) Via.refl (z2.ext W1.ox) 41 (hb hy d21_38) rfl ?_
  intro T2 W2
  refine o_ishr W2 (v := (x1 >>> ((0 : Int32) &&& 31))) 42 (hb hy d21_41) rfl rfl <| o_i2b W2 (v := (bH x1)) 43 (hb hy d21_42) rfl rfl ?_
  refine o_stB W2 z3 (i := 6) (x' := (bH x1)) (by decide) (by decide) (by decide) (Nat.lt_of_sub_eq_succ rfl) (own_b8 _) (vs' := [(.int (bH x2)), (.int (bL x2)), (.int (bH x3)), (.int (bL x3)), (.int (bH x4)), (.int (bL x4)), (.int (bH x1)), iZ]) rfl z4 m0 tri 44 (hb hy d21_43) rfl ?_
  intro T3 h3 lo3 W3 R3 V3
  refine o_aloadN W3 45 (hb hy d21_44) rfl rfl rfl <| o_iloadN W3 46 (hb hy d21_45) rfl rfl <| o_iloadN W3 47 (hb hy d21_46) rfl rfl ?_
  refine o_getS W3 (w99 hw) Via.refl (z5.ext W3.ox) 50 (hb hy d21_47) rfl ?_
  intro T4 W4
  refine o_ishr W4 (v := (x1 >>> ((8 : Int32) &&& 31))) 51 (hb hy d21_50) rfl rfl <| o_i2b W4 (v := (bL x1)) 52 (hb hy d21_51) rfl rfl ?_
  refine o_stB W4 V3 (i := 7) (x' := (bL x1)) (by decide) (by decide) (by decide) (Nat.lt_of_sub_eq_succ rfl) (own_b8 _) (vs' := [(.int (bH x2)), (.int (bL x2)), (.int (bH x3)), (.int (bL x3)), (.int (bH x4)), (.int (bL x4)), (.int (bH x1)), (.int (bL x1))]) rfl z4 m0 tri 53 (hb hy d21_52) rfl ?_
  intro T5 h5 lo5 W5 R5 V5
  exact o_ret0 W5 hlk hret (hb hy d21_53) (by decide) (by decide) ⟨V5, rfl⟩
theorem rm173 (l : Launch) {Z a0} (hw : HW Z a0) (a1 : Addr) (z0 : ClassId) (x1 x2 x3 x4 : Int32) (h0 : Heap) (O0 : Old Z Z.heap.size h0) (z1 : Arv Z h0 a1 z0 .char 4 [(.int x1), (.int x2), (.int x3), (.int x4)] iZ) (z2 : Sta Z Z.heap s1 s5 "Z" (.int 1)) (z3 : Sta Z Z.heap s1 s6 "I" iZ) (z4 : Sta Z Z.heap s1 s7 "I" (.int 8)) :
    CtrN l Z mn19 jdk_52_method_14_code 5 (some (.array .byte)) [] (⟨2, 1, 8, 24⟩ : Room) #[(.ref a1), iZ, (.int 4)] h0 [] (fun v h => ∃ r1 : Addr, ∃ r2 : ClassId, h0.size ≤ r1 ∧ Arv Z h r1 r2 .byte 8 [(.int (bH x1)), (.int (bL x1)), (.int (bH x2)), (.int (bL x2)), (.int (bH x3)), (.int (bL x3)), (.int (bH x4)), (.int (bL x4))] iZ ∧ v = some (.ref r1)) := by
  refine CtrN.intro (L0 := #[vr a1, vi 0, vi 4, un, un]) (plainFor_of_name pn3) O0 (own_entry rfl) ?_
  intro p e s m below meth c T0 hy hml hret hlk hnm W0
  refine o_iloadN W0 1 (hb hy d18_0) rfl rfl ?_
  refine o_staticC W0 (w87 hw) (w88 hw) (w73 hw) (w89 hw) (by decide) (rm168 l hw  h0 W0.old ) 0 1 8 (by decide) (by rw [hml]; rfl) (lenOf pd13 rfl) [] rfl rfl 4 (hb hy d18_1) rfl rfl rfl all0 tri ?_
  intro v1 T1 h1 lo1 W1 K1 q1
  obtain ⟨r1_1, r2_1, P1_0, P1_1, rfl⟩ := q1.2.2
  show Gl _ _ _ _ _ _ _ _ [(.ref r1_1)]
  refine o_astoreN W1 (L' := #[vr a1, vi 0, vi 4, vr r1_1, un]) 5 (hb hy d18_4) rfl rfl rfl <| o_iconst W1 (v := 0) 6 (hb hy d18_5) rfl rfl <| o_istore W1 (L' := #[vr a1, vi 0, vi 4, vr r1_1, vi 0]) 8 (hb hy d18_6) rfl rfl <| o_iload W1 10 (hb hy d18_8) rfl rfl <| o_iloadN W1 11 (hb hy d18_10) rfl rfl <| o_icmpN W1 14 (hb hy d18_11) (XT.ii_ge_f (by decide)) rfl ?_
  refine o_aloadN W1 15 (hb hy d18_14) rfl rfl rfl <| o_iload W1 17 (hb hy d18_15) rfl rfl <| o_aloadN W1 18 (hb hy d18_17) rfl rfl rfl <| o_iloadN W1 19 (hb hy d18_18) rfl rfl ?_
  have c2 := (z1.keep K1 nin0)
  refine o_caload W1 c2 (x := x1) (i := 0) (by decide) (by decide) (by decide) rfl 20 (hb hy d18_19) rfl ?_
  refine o_staticC W1 (w94 hw) (w95 hw) (w73 hw) (w96 hw) (by decide) (rm169 l hw r1_1 x1 r2_1 h1 W1.old z2 z3 P1_1 (Nat.le_trans W0.zs P1_0) z4) 0 1 8 (by decide) (by rw [hml]; rfl) (lenOf pd14 rfl) [] rfl rfl 23 (hb hy d18_20) rfl rfl rfl (allS ⟨(Nat.le_trans W0.zs P1_0), (Or.inr (Nat.le_trans W0.keep.1 P1_0))⟩ all0) tri ?_
  intro v3 T3 h3 lo3 W3 K3 q3
  obtain ⟨P3_0, rfl⟩ := q3.2.2
  show Gl _ _ _ _ _ _ _ _ []
  refine o_iinc W3 (v := 1) (L' := #[vr a1, vi 1, vi 4, vr r1_1, vi 0]) 26 (hb hy d18_23) rfl (by decide) rfl rfl <| o_iinc W3 (v := 1) (L' := #[vr a1, vi 1, vi 4, vr r1_1, vi 1]) 29 (hb hy d18_26) rfl (by decide) rfl rfl <| o_goto W3 8 (hb hy d18_29) (by decide) rfl <| o_iload W3 10 (hb hy d18_8) rfl rfl <| o_iloadN W3 11 (hb hy d18_10) rfl rfl <| o_icmpN W3 14 (hb hy d18_11) (XT.ii_ge_f (by decide)) rfl ?_
  refine o_aloadN W3 15 (hb hy d18_14) rfl rfl rfl <| o_iload W3 17 (hb hy d18_15) rfl rfl <| o_aloadN W3 18 (hb hy d18_17) rfl rfl rfl <| o_iloadN W3 19 (hb hy d18_18) rfl rfl ?_
  have c4 := (c2.keep K3 (ninS (own_ne z1.lt P1_0) nin0))
  refine o_caload W3 c4 (x := x2) (i := 1) (by decide) (by decide) (by decide) rfl 20 (hb hy d18_19) rfl ?_
  refine o_staticC W3 (w94 hw) (w95 hw) (w73 hw) (w96 hw) (by decide) (rm170 l hw r1_1 x2 r2_1 x1 h3 W3.old z2 z3 P3_0 (Nat.le_trans W0.zs P1_0) z4) 0 1 8 (by decide) (by rw [hml]; rfl) (lenOf pd14 rfl) [] rfl rfl 23 (hb hy d18_20) rfl rfl rfl (allS ⟨(Nat.le_trans W0.zs P1_0), (Or.inr (Nat.le_trans W0.keep.1 P1_0))⟩ all0) tri ?_
  intro v5 T5 h5 lo5 W5 K5 q5
  obtain ⟨P5_0, rfl⟩ := q5.2.2
  show Gl _ _ _ _ _ _ _ _ []
  refine o_iinc W5 (v := 2) (L' := #[vr a1, vi 2, vi 4, vr r1_1, vi 1]) 26 (hb hy d18_23) rfl (by decide) rfl rfl <| o_iinc W5 (v := 2) (L' := #[vr a1, vi 2, vi 4, vr r1_1, vi 2]) 29 (hb hy d18_26) rfl (by decide) rfl rfl <| o_goto W5 8 (hb hy d18_29) (by decide) rfl <| o_iload W5 10 (hb hy d18_8) rfl rfl <| o_iloadN W5 11 (hb hy d18_10) rfl rfl <| o_icmpN W5 14 (hb hy d18_11) (XT.ii_ge_f (by decide)) rfl ?_
  refine o_aloadN W5 15 (hb hy d18_14) rfl rfl rfl <| o_iload W5 17 (hb hy d18_15) rfl rfl <| o_aloadN W5 18 (hb hy d18_17) rfl rfl rfl <| o_iloadN W5 19 (hb hy d18_18) rfl rfl ?_
  have c6 := (c4.keep K5 (ninS (own_ne z1.lt P1_0) nin0))
  refine o_caload W5 c6 (x := x3) (i := 2) (by decide) (by decide) (by decide) rfl 20 (hb hy d18_19) rfl ?_
  refine o_staticC W5 (w94 hw) (w95 hw) (w73 hw) (w96 hw) (by decide) (rm171 l hw r1_1 x3 r2_1 x1 x2 h5 W5.old z2 z3 P5_0 (Nat.le_trans W0.zs P1_0) z4) 0 1 8 (by decide) (by rw [hml]; rfl) (lenOf pd14 rfl) [] rfl rfl 23 (hb hy d18_20) rfl rfl rfl (allS ⟨(Nat.le_trans W0.zs P1_0), (Or.inr (Nat.le_trans W0.keep.1 P1_0))⟩ all0) tri ?_
  intro v7 T7 h7 lo7 W7 K7 q7
  obtain ⟨P7_0, rfl⟩ := q7.2.2
  show Gl _ _ _ _ _ _ _ _ []
  refine o_iinc W7 (v := 3) (L' := #[vr a1, vi 3, vi 4, vr r1_1, vi 2]) 26 (hb hy d18_23) rfl (by decide) rfl rfl <| o_iinc W7 (v := 3) (L' := #[vr a1, vi 3, vi 4, vr r1_1, vi 3]) 29 (hb hy d18_26) rfl (by decide) rfl rfl <| o_goto W7 8 (hb hy d18_29) (by decide) rfl <| o_iload W7 10 (hb hy d18_8) rfl rfl <| o_iloadN W7 11 (hb hy d18_10) rfl rfl <| o_icmpN W7 14 (hb hy d18_11) (XT.ii_ge_f (by decide)) rfl ?_
  refine o_aloadN W7 15 (hb hy d18_14) rfl rfl rfl <| o_iload W7 17 (hb hy d18_15) rfl rfl <| o_aloadN W7 18 (hb hy d18_17) rfl rfl rfl <| o_iloadN W7 19 (hb hy d18_18) rfl rfl ?_
  have c8 := (c6.keep K7 (ninS (own_ne z1.lt P1_0) nin0))
  refine o_caload W7 c8 (x := x4) (i := 3) (by decide) (by decide) (by decide) rfl 20 (hb hy d18_19) rfl ?_
  refine o_staticC W7 (w94 hw) (w95 hw) (w73 hw) (w96 hw) (by decide) (rm172 l hw r1_1 x4 r2_1 x1 x2 x3 h7 W7.old z2 z3 P7_0 (Nat.le_trans W0.zs P1_0) z4) 0 1 8 (by decide) (by rw [hml]; rfl) (lenOf pd14 rfl) [] rfl rfl 23 (hb hy d18_20) rfl rfl rfl (allS ⟨(Nat.le_trans W0.zs P1_0), (Or.inr (Nat.le_trans W0.keep.1 P1_0))⟩ all0) tri ?_
  intro v9 T9 h9 lo9 W9 K9 q9
  obtain ⟨P9_0, rfl⟩ := q9.2.2
  show Gl _ _ _ _ _ _ _ _ []
  refine o_iinc W9 (v := 4) (L' := #[vr a1, vi 4, vi 4, vr r1_1, vi 3]) 26 (hb hy d18_23) rfl (by decide) rfl rfl <| o_iinc W9 (v := 4) (L' := #[vr a1, vi 4, vi 4, vr r1_1, vi 4]) 29 (hb hy d18_26) rfl (by decide) rfl rfl <| o_goto W9 8 (hb hy d18_29) (by decide) rfl <| o_iload W9 10 (hb hy d18_8) rfl rfl <| o_iloadN W9 11 (hb hy d18_10) rfl rfl <| o_icmpY W9 32 (hb hy d18_11) (XT.ii_ge_t (by decide)) (by decide) rfl ?_
  refine o_aloadN W9 33 (hb hy d18_32) rfl rfl rfl ?_
  exact o_retA W9 hlk (v := (.ref r1_1)) hret rfl rfl (hb hy d18_33) (by decide) (by decide) ⟨r1_1, r2_1, (Nat.le_trans W0.keep.1 P1_0), P9_0, rfl⟩
theorem rm174 (l : Launch) {Z a0} (hw : HW Z a0) (a1 : Addr) (z0 : ClassId) (x1 x2 x3 x4 : Int32) (h0 : Heap) (O0 : Old Z Z.heap.size h0) (z1 : Sta Z Z.heap s1 s5 "Z" (.int 1)) (z2 : Arv Z h0 a1 z0 .byte 8 [(.int (bH x1)), (.int (bL x1)), (.int (bH x2)), (.int (bL x2)), (.int (bH x3)), (.int (bL x3)), (.int (bH x4)), (.int (bL x4))] iZ) (z3 : Sta Z Z.heap s1 s6 "I" iZ) (z4 : Sta Z Z.heap s1 s7 "I" (.int 8)) (hu4 : own_c x4) :
    CtrN l Z mn20 jdk_52_method_5_code 2 (some .char) [] (⟨0, 0, 0, 0⟩ : Room) #[(.ref a1), (.int 3)] h0 [] (fun v h => v = some (.int x4)) := by
  refine CtrN.intro (L0 := #[vr a1, vi 3]) (plainFor_of_name pn3) O0 (own_entry rfl) ?_
  intro p e s m below meth c T0 hy hml hret hlk hnm W0
  refine o_getS W0 (w97 hw) Via.refl (z1.ext W0.ox) 3 (hb hy d22_0) rfl ?_
  intro T1 W1
  refine o_ifY W1 28 (hb hy d22_3) (XT.i0_ne_t (by decide)) (by decide) rfl <| o_iloadN W1 29 (hb hy d22_28) rfl rfl <| o_iconst W1 (v := 1) 30 (hb hy d22_29) rfl rfl <| o_ishl W1 (v := 6) 31 (hb hy d22_30) (by decide) rfl <| o_istoreN W1 (L' := #[vr a1, vi 6]) 32 (hb hy d22_31) rfl rfl <| o_aloadN W1 33 (hb hy d22_32) rfl rfl rfl ?_
  refine o_iloadN W1 34 (hb hy d22_33) rfl rfl <| o_iinc W1 (v := 7) (L' := #[vr a1, vi 7]) 37 (hb hy d22_34) rfl (by decide) rfl rfl <| o_baload W1 z2 (x := (bH x4)) (i := 6) (by decide) (by decide) (by decide) rfl 38 (hb hy d22_37) rfl <| o_sipush W1 (v := 255) 41 (hb hy d22_38) (by decide) rfl <| o_iand W1 (v := ((bH x4) &&& 255)) 42 (hb hy d22_41) rfl rfl ?_
  refine o_getS W1 (w98 hw) Via.refl (z3.ext W1.ox) 45 (hb hy d22_42) rfl ?_
  intro T2 W2
  refine o_ishl W2 (v := (((bH x4) &&& 255) <<< ((0 : Int32) &&& 31))) 46 (hb hy d22_45) rfl rfl <| o_aloadN W2 47 (hb hy d22_46) rfl rfl rfl <| o_iloadN W2 48 (hb hy d22_47) rfl rfl <| o_baload W2 z2 (x := (bL x4)) (i := 7) (by decide) (by decide) (by decide) rfl 49 (hb hy d22_48) rfl <| o_sipush W2 (v := 255) 52 (hb hy d22_49) (by decide) rfl <| o_iand W2 (v := ((bL x4) &&& 255)) 53 (hb hy d22_52) rfl rfl ?_
  refine o_getS W2 (w99 hw) Via.refl (z4.ext W2.ox) 56 (hb hy d22_53) rfl ?_
  intro T3 W3
  refine o_ishl W3 (v := (((bL x4) &&& 255) <<< ((8 : Int32) &&& 31))) 57 (hb hy d22_56) rfl rfl <| o_ior W3 (v := ((((bH x4) &&& 255) <<< ((0 : Int32) &&& 31)) ||| (((bL x4) &&& 255) <<< ((8 : Int32) &&& 31)))) 58 (hb hy d22_57) rfl rfl <| o_i2c W3 (v := x4) 59 (hb hy d22_58) (own_join hu4) rfl ?_
  exact o_retN W3 hlk (t := .char) hret (by simp) (z' := x4) (own_i2cc hu4) (hb hy d22_59) (by decide) (by decide) rfl
theorem rm175 (l : Launch) {Z a0} (hw : HW Z a0) (a1 : Addr) (z0 : ClassId) (x1 x2 x3 x4 : Int32) (h0 : Heap) (O0 : Old Z Z.heap.size h0) (z1 : Arv Z h0 a1 z0 .char 4 [(.int x1), (.int x2), (.int x3), (.int x4)] iZ) (hu3 : own_c x1) (hc4 : ¬ ((255 : Int32) < x1)) (hu5 : own_c x2) (hc6 : ¬ ((255 : Int32) < x2)) (hu7 : own_c x3) (hc8 : ¬ ((255 : Int32) < x3)) (hu9 : own_c x4) (hc10 : (255 : Int32) < x4) (z2 : Sta Z Z.heap s1 s5 "Z" (.int 1)) (z3 : Sta Z Z.heap s1 s6 "I" iZ) (z4 : Sta Z Z.heap s1 s7 "I" (.int 8)) :
    CtrN l Z mn9 jdk_52_method_16_code 6 (some (.array .byte)) [] (⟨3, 2, 12, 40⟩ : Room) #[(.ref a1), iZ, (.int 4)] h0 [] (fun v h => ∃ r1 : Addr, ∃ r2 : ClassId, h0.size ≤ r1 ∧ Arv Z h r1 r2 .byte 8 [(.int (bH x1)), (.int (bL x1)), (.int (bH x2)), (.int (bL x2)), (.int (bH x3)), (.int (bL x3)), (.int (bH x4)), (.int (bL x4))] iZ ∧ v = some (.ref r1)) := by
  refine CtrN.intro (L0 := #[vr a1, vi 0, vi 4, un, un, un]) (plainFor_of_name pn3) O0 (own_entry rfl) ?_
  intro p e s m below meth c T0 hy hml hret hlk hnm W0
  refine o_iloadN W0 1 (hb hy d14_0) rfl rfl ?_
  refine o_newP W0 (aty := .byte) (w20 hw) tri (by decide) (cap := 4) (by decide) (by decide) 3 (hb hy d14_1) rfl (cells' := 1) (slots' := 4) rfl rfl (by decide) (by decide) (vs := [iZ, iZ, iZ, iZ]) (dv := iZ) rfl rfl ?_
  intro b1 T1 h1 k1 W1 E1 ge1 gz1 gb1 V1
  refine o_astoreN W1 (L' := #[vr a1, vi 0, vi 4, vr b1, un, un]) 4 (hb hy d14_3) rfl rfl rfl <| o_aloadN W1 5 (hb hy d14_4) rfl rfl rfl <| o_iloadN W1 6 (hb hy d14_5) rfl rfl <| o_aloadN W1 7 (hb hy d14_6) rfl rfl rfl <| o_iconst W1 (v := 0) 8 (hb hy d14_7) rfl rfl <| o_iloadN W1 9 (hb hy d14_8) rfl rfl ?_
  have c2 := (z1.ext E1)
  refine o_staticC W1 (w75 hw) (w76 hw) (w73 hw) (w77 hw) (by decide) (rm166 l hw a1 b1 z0 x1 x2 x3 x4 k1 h1 W1.old c2 hu3 hc4 V1 gz1 (own_ne z1.lt ge1) hu5 hc6 hu7 hc8 hu9 hc10) 0 1 4 (by decide) (by rw [hml]; rfl) (lenOf pd5 rfl) [] rfl rfl 12 (hb hy d14_9) rfl rfl rfl (allS ⟨gz1, (Or.inr gb1)⟩ all0) tri ?_
  intro v11 T11 h11 lo11 W11 K11 q11
  obtain ⟨P11_0, rfl⟩ := q11.2.2
  show Gl _ _ _ _ _ _ _ _ [(.int 3)]
  refine o_istore W11 (L' := #[vr a1, vi 0, vi 4, vr b1, vi 3, un]) 14 (hb hy d14_12) rfl rfl <| o_iload W11 16 (hb hy d14_14) rfl rfl <| o_iloadN W11 17 (hb hy d14_16) rfl rfl <| o_icmpN W11 20 (hb hy d14_17) (XT.ii_eq_f (by decide)) rfl <| o_aloadN W11 21 (hb hy d14_20) rfl rfl rfl <| o_iloadN W11 22 (hb hy d14_21) rfl rfl ?_
  refine o_iloadN W11 23 (hb hy d14_22) rfl rfl ?_
  have c12 := (c2.keep K11 (ninS (own_ne z1.lt ge1) nin0))
  refine o_staticC W11 (w84 hw) (w85 hw) (w73 hw) (w86 hw) (by decide) (rm173 l hw a1 z0 x1 x2 x3 x4 h11 W11.old c12 z2 z3 z4) 0 2 12 (by decide) (by rw [hml]; rfl) (lenOf pd6 rfl) [] rfl rfl 26 (hb hy d14_23) rfl rfl rfl all0 tri ?_
  intro v13 T13 h13 lo13 W13 K13 q13
  obtain ⟨r1_13, r2_13, P13_0, P13_1, rfl⟩ := q13.2.2
  show Gl _ _ _ _ _ _ _ _ [(.ref r1_13)]
  refine o_astore W13 (L' := #[vr a1, vi 0, vi 4, vr b1, vi 3, vr r1_13]) 28 (hb hy d14_26) rfl rfl rfl <| o_aload W13 30 (hb hy d14_28) rfl rfl rfl <| o_iload W13 32 (hb hy d14_30) rfl rfl ?_
  refine o_staticC W13 (w100 hw) (w101 hw) (w73 hw) (w102 hw) (by decide) (rm174 l hw r1_13 r2_13 x1 x2 x3 x4 h13 W13.old z2 P13_1 z3 z4 hu9) 0 2 12 (by decide) (by rw [hml]; rfl) (lenOf pd11 rfl) [] rfl rfl 35 (hb hy d14_32) rfl rfl rfl all0 tri ?_
  intro v14 T14 h14 lo14 W14 K14 q14
  obtain rfl := q14.2.2
  show Gl _ _ _ _ _ _ _ _ [(.int x4)]
  refine o_sipush W14 (v := 255) 38 (hb hy d14_35) (by decide) rfl <| o_icmpY W14 54 (hb hy d14_38) (XT.ii_gt_t hc10) (by decide) rfl <| o_aload W14 56 (hb hy d14_54) rfl rfl rfl ?_
  have c15 := (P13_1.keep K14 nin0)
  exact o_retA W14 hlk (v := (.ref r1_13)) hret rfl rfl (hb hy d14_56) (by decide) (by decide) ⟨r1_13, r2_13, (Nat.le_trans W11.keep.1 P13_0), c15, rfl⟩
theorem rm176 (l : Launch) {Z a0} (hw : HW Z a0) (a1 : Addr) (z0 : ClassId) (x1 x2 x3 x4 : Int32) (h0 : Heap) (O0 : Old Z Z.heap.size h0) (z1 : Arv Z h0 a1 z0 .byte 8 [(.int (bH x1)), (.int (bL x1)), (.int (bH x2)), (.int (bL x2)), (.int (bH x3)), (.int (bL x3)), (.int (bH x4)), (.int (bL x4))] iZ) :
    CtrN l Z mn10 jdk_52_method_15_code 2 (some .byte) [] (⟨0, 0, 0, 0⟩ : Room) #[(.ref a1), (.int 4)] h0 [] (fun v h => v = some (.int 1)) := by
  refine CtrN.intro (L0 := #[vr a1, vi 4]) (plainFor_of_name pn3) O0 (own_entry rfl) ?_
  intro p e s m below meth c T0 hy hml hret hlk hnm W0
  refine o_iloadN W0 1 (hb hy d16_0) rfl rfl <| o_aloadN W0 2 (hb hy d16_1) rfl rfl rfl <| o_len W0 z1 3 (hb hy d16_2) rfl <| o_isub W0 (v := (-4 : Int32)) 4 (hb hy d16_3) (by decide) rfl <| o_bipush W0 (v := 31) 6 (hb hy d16_4) (by decide) rfl <| o_iushr W0 (v := 1) 7 (hb hy d16_6) (by decide) rfl ?_
  refine o_i2b W0 (v := 1) 8 (hb hy d16_7) (by decide) rfl ?_
  exact o_retN W0 hlk (t := .byte) hret (by simp) (z' := (1 : Int32)) (by decide) (hb hy d16_8) (by decide) (by decide) rfl
theorem rm177 (l : Launch) {Z a0} (hw : HW Z a0) (gCS : Int32) (a1 a2 : Addr) (z0 : ClassId) (x1 x2 x3 x4 : Int32) (h0 : Heap) (O0 : Old Z Z.heap.size h0) (SgCS : Sta Z Z.heap s0 s8 "Z" (.int gCS)) (NgCS : ¬ (gCS = (0 : Int32))) (z1 : Arv Z h0 a2 z0 .char 4 [(.int x1), (.int x2), (.int x3), (.int x4)] iZ) (hu3 : own_c x1) (hc4 : ¬ ((255 : Int32) < x1)) (hu5 : own_c x2) (hc6 : ¬ ((255 : Int32) < x2)) (hu7 : own_c x3) (hc8 : ¬ ((255 : Int32) < x3)) (hu9 : own_c x4) (hc10 : (255 : Int32) < x4) (z2 : Sta Z Z.heap s1 s5 "Z" (.int 1)) (z3 : Sta Z Z.heap s1 s6 "I" iZ) (z4 : Sta Z Z.heap s1 s7 "I" (.int 8)) (z5 : Exa Z h0 a1 s0) (z6 : Fld Z h0 a1 s0 "coder" "B" iZ) (z7 : Z.heap.size ≤ a1) (z8 : Fld Z h0 a1 s0 "value" "[B" .null) :
    CtrN l Z mn5 jdk_42_method_149_code 6 none [] (⟨4, 2, 12, 57⟩ : Room) #[(.ref a1), (.ref a2), iZ, (.int 4), .null] h0 [a1] (fun v h => ∃ r1 : Addr, ∃ r2 : ClassId, h0.size ≤ r1 ∧ Fld Z h a1 s0 "coder" "B" (.int 1) ∧ Fld Z h a1 s0 "value" "[B" (.ref r1) ∧ Arv Z h r1 r2 .byte 8 [(.int (bH x1)), (.int (bL x1)), (.int (bH x2)), (.int (bL x2)), (.int (bH x3)), (.int (bL x3)), (.int (bH x4)), (.int (bL x4))] iZ ∧ v = none) := by
  refine CtrN.intro (L0 := #[vr a1, vr a2, vi 0, vi 4, .val .null, un]) (plainFor_of_name pn1) O0 (own_entry rfl) ?_
  intro p e s m below meth c T0 hy hml hret hlk hnm W0
  refine o_aloadN W0 1 (hb hy d3_0) rfl rfl rfl ?_
  refine o_initO W0 (w16 hw) (w17 hw) (w18 hw) (by rw [hml]; rfl) 4 (hb hy d3_1) rfl (by decide) 0 (by exact Nat.le_of_eq rfl) (by decide) ?_
  intro T1 W1
  refine o_iloadN W1 5 (hb hy d3_4) rfl rfl <| o_ifY W1 27 (hb hy d3_5) (XT.i0_ne_t (by decide)) (by decide) rfl ?_
  refine o_getS W1 (w48 hw) Via.refl (SgCS.ext W1.ox) 30 (hb hy d3_27) rfl ?_
  intro T2 W2
  refine o_ifN W2 33 (hb hy d3_30) (XT.i0_eq_f NgCS) rfl <| o_aloadN W2 34 (hb hy d3_33) rfl rfl rfl <| o_iloadN W2 35 (hb hy d3_34) rfl rfl <| o_iloadN W2 36 (hb hy d3_35) rfl rfl ?_
  refine o_staticC W2 (w71 hw) (w72 hw) (w73 hw) (w74 hw) (by decide) (rm175 l hw a2 z0 x1 x2 x3 x4 h0 W2.old z1 hu3 hc4 hu5 hc6 hu7 hc8 hu9 hc10 z2 z3 z4) 0 2 12 (by decide) (by rw [hml]; rfl) (lenOf pd6 rfl) [] rfl rfl 39 (hb hy d3_36) rfl rfl rfl all0 tri ?_
  intro v11 T11 h11 lo11 W11 K11 q11
  obtain ⟨r1_11, r2_11, P11_0, P11_1, rfl⟩ := q11.2.2
  show Gl _ _ _ _ _ _ _ _ [(.ref r1_11)]
  refine o_astore W11 (L' := #[vr a1, vr a2, vi 0, vi 4, .val .null, vr r1_11]) 41 (hb hy d3_39) rfl rfl rfl <| o_aloadN W11 42 (hb hy d3_41) rfl rfl rfl <| o_aload W11 44 (hb hy d3_42) rfl rfl rfl <| o_iloadN W11 45 (hb hy d3_44) rfl rfl ?_
  refine o_staticC W11 (w78 hw) (w79 hw) (w73 hw) (w80 hw) (by decide) (rm176 l hw r1_11 r2_11 x1 x2 x3 x4 h11 W11.old P11_1) 1 2 12 (by decide) (by rw [hml]; rfl) (lenOf pd7 rfl) [(.ref a1)] rfl rfl 48 (hb hy d3_45) rfl rfl rfl all0 tri ?_
  intro v12 T12 h12 lo12 W12 K12 q12
  obtain rfl := q12.2.2
  show Gl _ _ _ _ _ _ _ _ [(.int 1), (.ref a1)]
  have c13 := ((z5.keep K11).keep K12)
  have c14 := ((z6.keep K11 nin0).keep K12 nin0)
  refine o_putF W12 (w26 hw) Via.refl c14 c13 (Or.inr ⟨(w22 hw), rfl, hnm⟩) (w7 hw) (ty := .byte) (v' := (.int 1)) (by decide) rfl (by decide) z7 m0 tri 51 (hb hy d3_48) rfl ?_
  intro T15 h15 lo15 W15 R15
  have F15 := c14.same R15
  refine o_aloadN W15 52 (hb hy d3_51) rfl rfl rfl <| o_aload W15 54 (hb hy d3_52) rfl rfl rfl ?_
  have c16 := (c13.wr R15)
  have c17 := (((z8.keep K11 nin0).keep K12 nin0).other R15 (Or.inr (slot_ne (Or.inr (w21 hw)) (Or.inr (w22 hw)) (by decide) (t := (.array .byte)) (t' := .byte) (by decide) (by decide))))
  refine o_putF W15 (w25 hw) Via.refl c17 c16 (Or.inr ⟨(w21 hw), rfl, hnm⟩) (w7 hw) (ty := (.array .byte)) (v' := (.ref r1_11)) (by decide) rfl rfl z7 m0 tri 57 (hb hy d3_54) rfl ?_
  intro T18 h18 lo18 W18 R18
  have F18 := c17.same R18
  have c19 := (F15.other R18 (Or.inr (slot_ne (Or.inr (w22 hw)) (Or.inr (w21 hw)) (by decide) (t := .byte) (t' := (.array .byte)) (by decide) (by decide))))
  have c20 := (c16.wr R18)
  have c21 := (((P11_1.keep K12 nin0).other R15 (own_ne' z5.lt P11_0)).other R18 (own_ne' z5.lt P11_0))
  exact o_ret0 W18 hlk hret (hb hy d3_57) (by decide) (by decide) ⟨r1_11, r2_11, (Nat.le_trans W2.keep.1 P11_0), c19, F18, c21, rfl⟩
theorem rm178 (l : Launch) {Z a0} (hw : HW Z a0) (a1 a2 : Addr) (z0 : ClassId) (x1 x2 x3 x4 : Int32) (h0 : Heap) (O0 : Old Z Z.heap.size h0) (z1 : Fld Z h0 a1 s0 "value" "[B" (.ref a2)) (z2 : Arv Z h0 a2 z0 .byte 8 [(.int (bH x1)), (.int (bL x1)), (.int (bH x2)), (.int (bL x2)), (.int (bH x3)), (.int (bL x3)), (.int (bH x4)), (.int (bL x4))] iZ) :
    CtrN l Z mn0 jdk_42_method_55_code 1 (some .boolean) [] (⟨0, 0, 0, 0⟩ : Room) #[(.ref a1)] h0 [] (fun v h => v = some iZ) := by
  refine CtrN.intro (L0 := #[vr a1]) (plainFor_of_name pn1) O0 (own_entry rfl) ?_
  intro p e s m below meth c T0 hy hml hret hlk hnm W0
  refine o_aloadN W0 1 (hb hy d6_0) rfl rfl rfl ?_
  refine o_getF W0 (w25 hw) Via.refl z1 4 (hb hy d6_1) rfl ?_
  intro T1 W1
  refine o_len W1 z2 5 (hb hy d6_4) rfl <| o_ifY W1 12 (hb hy d6_5) (XT.i0_ne_t (by decide)) (by decide) rfl <| o_iconst W1 (v := 0) 13 (hb hy d6_12) rfl rfl ?_
  exact o_retN W1 hlk (t := .boolean) hret (by simp) (z' := (0 : Int32)) (by decide) (hb hy d6_13) (by decide) (by decide) rfl
theorem rm179 (l : Launch) {Z a0} (hw : HW Z a0) (gCS : Int32) (a1 a2 : Addr) (z0 : ClassId) (x1 x2 x3 x4 : Int32) (h0 : Heap) (O0 : Old Z Z.heap.size h0) (z1 : Fld Z h0 a1 s0 "value" "[B" (.ref a2)) (z2 : Arv Z h0 a2 z0 .byte 8 [(.int (bH x1)), (.int (bL x1)), (.int (bH x2)), (.int (bL x2)), (.int (bH x3)), (.int (bL x3)), (.int (bH x4)), (.int (bL x4))] iZ) (z3 : Exa Z h0 a1 s0) (SgCS : Sta Z Z.heap s0 s8 "Z" (.int gCS)) (NgCS : ¬ (gCS = (0 : Int32))) (z4 : Fld Z h0 a1 s0 "coder" "B" (.int 1)) :
    CtrN l Z mn1 jdk_42_method_54_code 1 (some .int) [] (⟨1, 0, 0, 14⟩ : Room) #[(.ref a1)] h0 [] (fun v h => v = some (.int 4)) := by
  refine CtrN.intro (L0 := #[vr a1]) (plainFor_of_name pn1) O0 (own_entry rfl) ?_
  intro p e s m below meth c T0 hy hml hret hlk hnm W0
  refine o_aloadN W0 1 (hb hy d7_0) rfl rfl rfl ?_
  refine o_getF W0 (w25 hw) Via.refl z1 4 (hb hy d7_1) rfl ?_
  intro T1 W1
  refine o_len W1 z2 5 (hb hy d7_4) rfl <| o_aloadN W1 6 (hb hy d7_5) rfl rfl rfl ?_
  refine o_virtualC W1 (w43 hw) (w44 hw) (o_nf W1 rfl (w46 hw)) (w46 hw) (w45 hw) (by decide) z3 (w47 hw) (w8 hw) (rm30 l hw gCS a1 h0 W1.old SgCS NgCS z4) 1 0 0 (by decide) (by rw [hml]; rfl) (lenOf pd8 rfl) [(.int 8)] rfl rfl 9 (hb hy d7_6) rfl rfl rfl all0 tri ?_
  intro v2 T2 h2 lo2 W2 K2 q2
  obtain rfl := q2.2.2
  show Gl _ _ _ _ _ _ _ _ [(.int 1), (.int 8)]
  refine o_ishr W2 (v := 4) 10 (hb hy d7_9) (by decide) rfl ?_
  exact o_retI W2 hlk hret (hb hy d7_10) (by decide) (by decide) rfl
theorem rm180 (l : Launch) {Z a0} (hw : HW Z a0) (a1 : Addr) (z0 : ClassId) (x1 x2 x3 x4 : Int32) (h0 : Heap) (O0 : Old Z Z.heap.size h0) (z1 : Arv Z h0 a1 z0 .byte 8 [(.int (bH x1)), (.int (bL x1)), (.int (bH x2)), (.int (bL x2)), (.int (bH x3)), (.int (bL x3)), (.int (bH x4)), (.int (bL x4))] iZ) :
    CtrN l Z mn21 jdk_52_method_6_code 1 (some .int) [] (⟨0, 0, 0, 0⟩ : Room) #[(.ref a1)] h0 [] (fun v h => v = some (.int 4)) := by
  refine CtrN.intro (L0 := #[vr a1]) (plainFor_of_name pn3) O0 (own_entry rfl) ?_
  intro p e s m below meth c T0 hy hml hret hlk hnm W0
  refine o_aloadN W0 1 (hb hy d25_0) rfl rfl rfl <| o_len W0 z1 2 (hb hy d25_1) rfl <| o_iconst W0 (v := 1) 3 (hb hy d25_2) rfl rfl <| o_ishr W0 (v := 4) 4 (hb hy d25_3) (by decide) rfl ?_
  exact o_retI W0 hlk hret (hb hy d25_4) (by decide) (by decide) rfl
theorem rm181 (l : Launch) {Z a0} (hw : HW Z a0) (gF : Value) (a1 : Addr) (z0 : ClassId) (x1 x2 x3 x4 : Int32) (h0 : Heap) (O0 : Old Z Z.heap.size h0) (z1 : Arv Z h0 a1 z0 .byte 8 [(.int (bH x1)), (.int (bL x1)), (.int (bH x2)), (.int (bL x2)), (.int (bH x3)), (.int (bL x3)), (.int (bH x4)), (.int (bL x4))] iZ) (SgF : Sta Z Z.heap s2 s3 s4 gF) (NgF : gF.isRef = true) :
    CtrN l Z mn22 jdk_52_method_91_code 2 none [] (⟨2, 0, 0, 27⟩ : Room) #[iZ, (.ref a1)] h0 [] (fun v h => v = none) := by
  refine CtrN.intro (L0 := #[vi 0, vr a1]) (plainFor_of_name pn3) O0 (own_entry rfl) ?_
  intro p e s m below meth c T0 hy hml hret hlk hnm W0
  refine o_iloadN W0 1 (hb hy d24_0) rfl rfl <| o_aloadN W0 2 (hb hy d24_1) rfl rfl rfl ?_
  refine o_staticC W0 (w109 hw) (w110 hw) (w73 hw) (w111 hw) (by decide) (rm180 l hw a1 z0 x1 x2 x3 x4 h0 W0.old z1) 1 0 0 (by decide) (by rw [hml]; rfl) (lenOf pd15 rfl) [iZ] rfl rfl 5 (hb hy d24_2) rfl rfl rfl all0 tri ?_
  intro v1 T1 h1 lo1 W1 K1 q1
  obtain rfl := q1.2.2
  show Gl _ _ _ _ _ _ _ _ [(.int 4), iZ]
  refine o_staticC W1 (w112 hw) (w64 hw) (w8 hw) (w65 hw) (by decide) (rm148 l hw gF h1 W1.old SgF NgF) 0 0 0 (by decide) (by rw [hml]; rfl) (lenOf pd10 rfl) [] rfl rfl 8 (hb hy d24_5) rfl rfl rfl all0 tri ?_
  intro v2 T2 h2 lo2 W2 K2 q2
  obtain rfl := q2.2.2
  show Gl _ _ _ _ _ _ _ _ []
  exact o_ret0 W2 hlk hret (hb hy d24_8) (by decide) (by decide) rfl
theorem rm182 (l : Launch) {Z a0} (hw : HW Z a0) (a1 : Addr) (z0 : ClassId) (x1 x2 x3 x4 : Int32) (h0 : Heap) (O0 : Old Z Z.heap.size h0) (z1 : Sta Z Z.heap s1 s5 "Z" (.int 1)) (z2 : Arv Z h0 a1 z0 .byte 8 [(.int (bH x1)), (.int (bL x1)), (.int (bH x2)), (.int (bL x2)), (.int (bH x3)), (.int (bL x3)), (.int (bH x4)), (.int (bL x4))] iZ) (z3 : Sta Z Z.heap s1 s6 "I" iZ) (z4 : Sta Z Z.heap s1 s7 "I" (.int 8)) (hu4 : own_c x1) :
    CtrN l Z mn20 jdk_52_method_5_code 2 (some .char) [] (⟨0, 0, 0, 0⟩ : Room) #[(.ref a1), iZ] h0 [] (fun v h => v = some (.int x1)) := by
  refine CtrN.intro (L0 := #[vr a1, vi 0]) (plainFor_of_name pn3) O0 (own_entry rfl) ?_
  intro p e s m below meth c T0 hy hml hret hlk hnm W0
  refine o_getS W0 (w97 hw) Via.refl (z1.ext W0.ox) 3 (hb hy d22_0) rfl ?_
  intro T1 W1
  refine o_ifY W1 28 (hb hy d22_3) (XT.i0_ne_t (by decide)) (by decide) rfl <| o_iloadN W1 29 (hb hy d22_28) rfl rfl <| o_iconst W1 (v := 1) 30 (hb hy d22_29) rfl rfl <| o_ishl W1 (v := 0) 31 (hb hy d22_30) (by decide) rfl <| o_istoreN W1 (L' := #[vr a1, vi 0]) 32 (hb hy d22_31) rfl rfl <| o_aloadN W1 33 (hb hy d22_32) rfl rfl rfl ?_
  refine o_iloadN W1 34 (hb hy d22_33) rfl rfl <| o_iinc W1 (v := 1) (L' := #[vr a1, vi 1]) 37 (hb hy d22_34) rfl (by decide) rfl rfl <| o_baload W1 z2 (x := (bH x1)) (i := 0) (by decide) (by decide) (by decide) rfl 38 (hb hy d22_37) rfl <| o_sipush W1 (v := 255) 41 (hb hy d22_38) (by decide) rfl <| o_iand W1 (v := ((bH x1) &&& 255)) 42 (hb hy d22_41) rfl rfl ?_
  refine o_getS W1 (w98 hw) Via.refl (z3.ext W1.ox) 45 (hb hy d22_42) rfl ?_
  intro T2 W2
  refine o_ishl W2 (v := (((bH x1) &&& 255) <<< ((0 : Int32) &&& 31))) 46 (hb hy d22_45) rfl rfl <| o_aloadN W2 47 (hb hy d22_46) rfl rfl rfl <| o_iloadN W2 48 (hb hy d22_47) rfl rfl <| o_baload W2 z2 (x := (bL x1)) (i := 1) (by decide) (by decide) (by decide) rfl 49 (hb hy d22_48) rfl <| o_sipush W2 (v := 255) 52 (hb hy d22_49) (by decide) rfl <| o_iand W2 (v := ((bL x1) &&& 255)) 53 (hb hy d22_52) rfl rfl ?_
  refine o_getS W2 (w99 hw) Via.refl (z4.ext W2.ox) 56 (hb hy d22_53) rfl ?_
  intro T3 W3
  refine o_ishl W3 (v := (((bL x1) &&& 255) <<< ((8 : Int32) &&& 31))) 57 (hb hy d22_56) rfl rfl <| o_ior W3 (v := ((((bH x1) &&& 255) <<< ((0 : Int32) &&& 31)) ||| (((bL x1) &&& 255) <<< ((8 : Int32) &&& 31)))) 58 (hb hy d22_57) rfl rfl <| o_i2c W3 (v := x1) 59 (hb hy d22_58) (own_join hu4) rfl ?_
  exact o_retN W3 hlk (t := .char) hret (by simp) (z' := x1) (own_i2cc hu4) (hb hy d22_59) (by decide) (by decide) rfl
theorem rm183 (l : Launch) {Z a0} (hw : HW Z a0) (gF : Value) (a1 : Addr) (z0 : ClassId) (x1 x2 x3 x4 : Int32) (h0 : Heap) (O0 : Old Z Z.heap.size h0) (z1 : Arv Z h0 a1 z0 .byte 8 [(.int (bH x1)), (.int (bL x1)), (.int (bH x2)), (.int (bL x2)), (.int (bH x3)), (.int (bL x3)), (.int (bH x4)), (.int (bL x4))] iZ) (SgF : Sta Z Z.heap s2 s3 s4 gF) (NgF : gF.isRef = true) (z2 : Sta Z Z.heap s1 s5 "Z" (.int 1)) (z3 : Sta Z Z.heap s1 s6 "I" iZ) (z4 : Sta Z Z.heap s1 s7 "I" (.int 8)) (hu3 : own_c x1) :
    CtrN l Z mn23 jdk_52_method_83_code 2 (some .char) [] (⟨3, 0, 0, 40⟩ : Room) #[(.ref a1), iZ] h0 [] (fun v h => v = some (.int x1)) := by
  refine CtrN.intro (L0 := #[vr a1, vi 0]) (plainFor_of_name pn3) O0 (own_entry rfl) ?_
  intro p e s m below meth c T0 hy hml hret hlk hnm W0
  refine o_iloadN W0 1 (hb hy d23_0) rfl rfl <| o_aloadN W0 2 (hb hy d23_1) rfl rfl rfl ?_
  refine o_staticC W0 (w106 hw) (w107 hw) (w73 hw) (w108 hw) (by decide) (rm181 l hw gF a1 z0 x1 x2 x3 x4 h0 W0.old z1 SgF NgF) 0 0 0 (by decide) (by rw [hml]; rfl) (lenOf pd16 rfl) [] rfl rfl 5 (hb hy d23_2) rfl rfl rfl all0 tri ?_
  intro v1 T1 h1 lo1 W1 K1 q1
  obtain rfl := q1.2.2
  show Gl _ _ _ _ _ _ _ _ []
  refine o_aloadN W1 6 (hb hy d23_5) rfl rfl rfl <| o_iloadN W1 7 (hb hy d23_6) rfl rfl ?_
  have c2 := (z1.keep K1 nin0)
  refine o_staticC W1 (w100 hw) (w101 hw) (w73 hw) (w102 hw) (by decide) (rm182 l hw a1 z0 x1 x2 x3 x4 h1 W1.old z2 c2 z3 z4 hu3) 0 0 0 (by decide) (by rw [hml]; rfl) (lenOf pd11 rfl) [] rfl rfl 10 (hb hy d23_7) rfl rfl rfl all0 tri ?_
  intro v4 T4 h4 lo4 W4 K4 q4
  obtain rfl := q4.2.2
  show Gl _ _ _ _ _ _ _ _ [(.int x1)]
  exact o_retN W4 hlk (t := .char) hret (by simp) (z' := x1) (own_i2cc hu3) (hb hy d23_10) (by decide) (by decide) rfl
theorem rm184 (l : Launch) {Z a0} (hw : HW Z a0) (gCS : Int32) (gF : Value) (a1 a2 : Addr) (z0 : ClassId) (x1 x2 x3 x4 : Int32) (h0 : Heap) (O0 : Old Z Z.heap.size h0) (z1 : Exa Z h0 a1 s0) (SgCS : Sta Z Z.heap s0 s8 "Z" (.int gCS)) (NgCS : ¬ (gCS = (0 : Int32))) (z2 : Fld Z h0 a1 s0 "coder" "B" (.int 1)) (z3 : Fld Z h0 a1 s0 "value" "[B" (.ref a2)) (z4 : Arv Z h0 a2 z0 .byte 8 [(.int (bH x1)), (.int (bL x1)), (.int (bH x2)), (.int (bL x2)), (.int (bH x3)), (.int (bL x3)), (.int (bH x4)), (.int (bL x4))] iZ) (SgF : Sta Z Z.heap s2 s3 s4 gF) (NgF : gF.isRef = true) (z5 : Sta Z Z.heap s1 s5 "Z" (.int 1)) (z6 : Sta Z Z.heap s1 s6 "I" iZ) (z7 : Sta Z Z.heap s1 s7 "I" (.int 8)) (hu5 : own_c x1) :
    CtrN l Z mn2 jdk_42_method_56_code 2 (some .char) [] (⟨5, 0, 0, 70⟩ : Room) #[(.ref a1), iZ] h0 [] (fun v h => v = some (.int x1)) := by
  refine CtrN.intro (L0 := #[vr a1, vi 0]) (plainFor_of_name pn1) O0 (own_entry rfl) ?_
  intro p e s m below meth c T0 hy hml hret hlk hnm W0
  refine o_aloadN W0 1 (hb hy d9_0) rfl rfl rfl ?_
  refine o_virtualC W0 (w54 hw) (w55 hw) (o_nf W0 rfl (w57 hw)) (w57 hw) (w56 hw) (by decide) z1 (w58 hw) (w8 hw) (rm32 l hw gCS a1 h0 W0.old SgCS NgCS z2) 0 0 0 (by decide) (by rw [hml]; rfl) (lenOf pd3 rfl) [] rfl rfl 4 (hb hy d9_1) rfl rfl rfl all0 tri ?_
  intro v1 T1 h1 lo1 W1 K1 q1
  obtain rfl := q1.2.2
  show Gl _ _ _ _ _ _ _ _ [iZ]
  refine o_ifY W1 16 (hb hy d9_4) (XT.i0_eq_t (by decide)) (by decide) rfl <| o_aloadN W1 17 (hb hy d9_16) rfl rfl rfl ?_
  have c2 := (z3.keep K1 nin0)
  refine o_getF W1 (w25 hw) Via.refl c2 20 (hb hy d9_17) rfl ?_
  intro T3 W3
  refine o_iloadN W3 21 (hb hy d9_20) rfl rfl ?_
  have c4 := (z4.keep K1 nin0)
  refine o_staticC W3 (w103 hw) (w104 hw) (w73 hw) (w105 hw) (by decide) (rm183 l hw gF a2 z0 x1 x2 x3 x4 h1 W3.old c4 SgF NgF z5 z6 z7 hu5) 0 0 0 (by decide) (by rw [hml]; rfl) (lenOf pd11 rfl) [] rfl rfl 24 (hb hy d9_21) rfl rfl rfl all0 tri ?_
  intro v6 T6 h6 lo6 W6 K6 q6
  obtain rfl := q6.2.2
  show Gl _ _ _ _ _ _ _ _ [(.int x1)]
  exact o_retN W6 hlk (t := .char) hret (by simp) (z' := x1) (own_i2cc hu5) (hb hy d9_24) (by decide) (by decide) rfl
theorem rm185 (l : Launch) {Z a0} (hw : HW Z a0) (gF : Value) (a1 : Addr) (z0 : ClassId) (x1 x2 x3 x4 : Int32) (h0 : Heap) (O0 : Old Z Z.heap.size h0) (z1 : Arv Z h0 a1 z0 .byte 8 [(.int (bH x1)), (.int (bL x1)), (.int (bH x2)), (.int (bL x2)), (.int (bH x3)), (.int (bL x3)), (.int (bH x4)), (.int (bL x4))] iZ) (SgF : Sta Z Z.heap s2 s3 s4 gF) (NgF : gF.isRef = true) :
    CtrN l Z mn22 jdk_52_method_91_code 2 none [] (⟨2, 0, 0, 27⟩ : Room) #[(.int 1), (.ref a1)] h0 [] (fun v h => v = none) := by
  refine CtrN.intro (L0 := #[vi 1, vr a1]) (plainFor_of_name pn3) O0 (own_entry rfl) ?_
  intro p e s m below meth c T0 hy hml hret hlk hnm W0
  refine o_iloadN W0 1 (hb hy d24_0) rfl rfl <| o_aloadN W0 2 (hb hy d24_1) rfl rfl rfl ?_
  refine o_staticC W0 (w109 hw) (w110 hw) (w73 hw) (w111 hw) (by decide) (rm180 l hw a1 z0 x1 x2 x3 x4 h0 W0.old z1) 1 0 0 (by decide) (by rw [hml]; rfl) (lenOf pd15 rfl) [(.int 1)] rfl rfl 5 (hb hy d24_2) rfl rfl rfl all0 tri ?_
  intro v1 T1 h1 lo1 W1 K1 q1
  obtain rfl := q1.2.2
  show Gl _ _ _ _ _ _ _ _ [(.int 4), (.int 1)]
  refine o_staticC W1 (w112 hw) (w64 hw) (w8 hw) (w65 hw) (by decide) (rm153 l hw gF h1 W1.old SgF NgF) 0 0 0 (by decide) (by rw [hml]; rfl) (lenOf pd10 rfl) [] rfl rfl 8 (hb hy d24_5) rfl rfl rfl all0 tri ?_
  intro v2 T2 h2 lo2 W2 K2 q2
  obtain rfl := q2.2.2
  show Gl _ _ _ _ _ _ _ _ []
  exact o_ret0 W2 hlk hret (hb hy d24_8) (by decide) (by decide) rfl
theorem rm186 (l : Launch) {Z a0} (hw : HW Z a0) (a1 : Addr) (z0 : ClassId) (x1 x2 x3 x4 : Int32) (h0 : Heap) (O0 : Old Z Z.heap.size h0) (z1 : Sta Z Z.heap s1 s5 "Z" (.int 1)) (z2 : Arv Z h0 a1 z0 .byte 8 [(.int (bH x1)), (.int (bL x1)), (.int (bH x2)), (.int (bL x2)), (.int (bH x3)), (.int (bL x3)), (.int (bH x4)), (.int (bL x4))] iZ) (z3 : Sta Z Z.heap s1 s6 "I" iZ) (z4 : Sta Z Z.heap s1 s7 "I" (.int 8)) (hu4 : own_c x2) :
    CtrN l Z mn20 jdk_52_method_5_code 2 (some .char) [] (⟨0, 0, 0, 0⟩ : Room) #[(.ref a1), (.int 1)] h0 [] (fun v h => v = some (.int x2)) := by
  refine CtrN.intro (L0 := #[vr a1, vi 1]) (plainFor_of_name pn3) O0 (own_entry rfl) ?_
  intro p e s m below meth c T0 hy hml hret hlk hnm W0
  refine o_getS W0 (w97 hw) Via.refl (z1.ext W0.ox) 3 (hb hy d22_0) rfl ?_
  intro T1 W1
  refine o_ifY W1 28 (hb hy d22_3) (XT.i0_ne_t (by decide)) (by decide) rfl <| o_iloadN W1 29 (hb hy d22_28) rfl rfl <| o_iconst W1 (v := 1) 30 (hb hy d22_29) rfl rfl <| o_ishl W1 (v := 2) 31 (hb hy d22_30) (by decide) rfl <| o_istoreN W1 (L' := #[vr a1, vi 2]) 32 (hb hy d22_31) rfl rfl <| o_aloadN W1 33 (hb hy d22_32) rfl rfl rfl ?_
  refine o_iloadN W1 34 (hb hy d22_33) rfl rfl <| o_iinc W1 (v := 3) (L' := #[vr a1, vi 3]) 37 (hb hy d22_34) rfl (by decide) rfl rfl <| o_baload W1 z2 (x := (bH x2)) (i := 2) (by decide) (by decide) (by decide) rfl 38 (hb hy d22_37) rfl <| o_sipush W1 (v := 255) 41 (hb hy d22_38) (by decide) rfl <| o_iand W1 (v := ((bH x2) &&& 255)) 42 (hb hy d22_41) rfl rfl ?_
  refine o_getS W1 (w98 hw) Via.refl (z3.ext W1.ox) 45 (hb hy d22_42) rfl ?_
  intro T2 W2
  refine o_ishl W2 (v := (((bH x2) &&& 255) <<< ((0 : Int32) &&& 31))) 46 (hb hy d22_45) rfl rfl <| o_aloadN W2 47 (hb hy d22_46) rfl rfl rfl <| o_iloadN W2 48 (hb hy d22_47) rfl rfl <| o_baload W2 z2 (x := (bL x2)) (i := 3) (by decide) (by decide) (by decide) rfl 49 (hb hy d22_48) rfl <| o_sipush W2 (v := 255) 52 (hb hy d22_49) (by decide) rfl <| o_iand W2 (v := ((bL x2) &&& 255)) 53 (hb hy d22_52) rfl rfl ?_
  refine o_getS W2 (w99 hw) Via.refl (z4.ext W2.ox) 56 (hb hy d22_53) rfl ?_
  intro T3 W3
  refine o_ishl W3 (v := (((bL x2) &&& 255) <<< ((8 : Int32) &&& 31))) 57 (hb hy d22_56) rfl rfl <| o_ior W3 (v := ((((bH x2) &&& 255) <<< ((0 : Int32) &&& 31)) ||| (((bL x2) &&& 255) <<< ((8 : Int32) &&& 31)))) 58 (hb hy d22_57) rfl rfl <| o_i2c W3 (v := x2) 59 (hb hy d22_58) (own_join hu4) rfl ?_
  exact o_retN W3 hlk (t := .char) hret (by simp) (z' := x2) (own_i2cc hu4) (hb hy d22_59) (by decide) (by decide) rfl
theorem rm187 (l : Launch) {Z a0} (hw : HW Z a0) (gF : Value) (a1 : Addr) (z0 : ClassId) (x1 x2 x3 x4 : Int32) (h0 : Heap) (O0 : Old Z Z.heap.size h0) (z1 : Arv Z h0 a1 z0 .byte 8 [(.int (bH x1)), (.int (bL x1)), (.int (bH x2)), (.int (bL x2)), (.int (bH x3)), (.int (bL x3)), (.int (bH x4)), (.int (bL x4))] iZ) (SgF : Sta Z Z.heap s2 s3 s4 gF) (NgF : gF.isRef = true) (z2 : Sta Z Z.heap s1 s5 "Z" (.int 1)) (z3 : Sta Z Z.heap s1 s6 "I" iZ) (z4 : Sta Z Z.heap s1 s7 "I" (.int 8)) (hu3 : own_c x2) :
    CtrN l Z mn23 jdk_52_method_83_code 2 (some .char) [] (⟨3, 0, 0, 40⟩ : Room) #[(.ref a1), (.int 1)] h0 [] (fun v h => v = some (.int x2)) := by
  refine CtrN.intro (L0 := #[vr a1, vi 1]) (plainFor_of_name pn3) O0 (own_entry rfl) ?_
  intro p e s m below meth c T0 hy hml hret hlk hnm W0
  refine o_iloadN W0 1 (hb hy d23_0) rfl rfl <| o_aloadN W0 2 (hb hy d23_1) rfl rfl rfl ?_
  refine o_staticC W0 (w106 hw) (w107 hw) (w73 hw) (w108 hw) (by decide) (rm185 l hw gF a1 z0 x1 x2 x3 x4 h0 W0.old z1 SgF NgF) 0 0 0 (by decide) (by rw [hml]; rfl) (lenOf pd16 rfl) [] rfl rfl 5 (hb hy d23_2) rfl rfl rfl all0 tri ?_
  intro v1 T1 h1 lo1 W1 K1 q1
  obtain rfl := q1.2.2
  show Gl _ _ _ _ _ _ _ _ []
  refine o_aloadN W1 6 (hb hy d23_5) rfl rfl rfl <| o_iloadN W1 7 (hb hy d23_6) rfl rfl ?_
  have c2 := (z1.keep K1 nin0)
  refine o_staticC W1 (w100 hw) (w101 hw) (w73 hw) (w102 hw) (by decide) (rm186 l hw a1 z0 x1 x2 x3 x4 h1 W1.old z2 c2 z3 z4 hu3) 0 0 0 (by decide) (by rw [hml]; rfl) (lenOf pd11 rfl) [] rfl rfl 10 (hb hy d23_7) rfl rfl rfl all0 tri ?_
  intro v4 T4 h4 lo4 W4 K4 q4
  obtain rfl := q4.2.2
  show Gl _ _ _ _ _ _ _ _ [(.int x2)]
  exact o_retN W4 hlk (t := .char) hret (by simp) (z' := x2) (own_i2cc hu3) (hb hy d23_10) (by decide) (by decide) rfl
theorem rm188 (l : Launch) {Z a0} (hw : HW Z a0) (gCS : Int32) (gF : Value) (a1 a2 : Addr) (z0 : ClassId) (x1 x2 x3 x4 : Int32) (h0 : Heap) (O0 : Old Z Z.heap.size h0) (z1 : Exa Z h0 a1 s0) (SgCS : Sta Z Z.heap s0 s8 "Z" (.int gCS)) (NgCS : ¬ (gCS = (0 : Int32))) (z2 : Fld Z h0 a1 s0 "coder" "B" (.int 1)) (z3 : Fld Z h0 a1 s0 "value" "[B" (.ref a2)) (z4 : Arv Z h0 a2 z0 .byte 8 [(.int (bH x1)), (.int (bL x1)), (.int (bH x2)), (.int (bL x2)), (.int (bH x3)), (.int (bL x3)), (.int (bH x4)), (.int (bL x4))] iZ) (SgF : Sta Z Z.heap s2 s3 s4 gF) (NgF : gF.isRef = true) (z5 : Sta Z Z.heap s1 s5 "Z" (.int 1)) (z6 : Sta Z Z.heap s1 s6 "I" iZ) (z7 : Sta Z Z.heap s1 s7 "I" (.int 8)) (hu5 : own_c x2) :
    CtrN l Z mn2 jdk_42_method_56_code 2 (some .char) [] (⟨5, 0, 0, 70⟩ : Room) #[(.ref a1), (.int 1)] h0 [] (fun v h => v = some (.int x2)) := by
  refine CtrN.intro (L0 := #[vr a1, vi 1]) (plainFor_of_name pn1) O0 (own_entry rfl) ?_
  intro p e s m below meth c T0 hy hml hret hlk hnm W0
  refine o_aloadN W0 1 (hb hy d9_0) rfl rfl rfl ?_
  refine o_virtualC W0 (w54 hw) (w55 hw) (o_nf W0 rfl (w57 hw)) (w57 hw) (w56 hw) (by decide) z1 (w58 hw) (w8 hw) (rm32 l hw gCS a1 h0 W0.old SgCS NgCS z2) 0 0 0 (by decide) (by rw [hml]; rfl) (lenOf pd3 rfl) [] rfl rfl 4 (hb hy d9_1) rfl rfl rfl all0 tri ?_
  intro v1 T1 h1 lo1 W1 K1 q1
  obtain rfl := q1.2.2
  show Gl _ _ _ _ _ _ _ _ [iZ]
  refine o_ifY W1 16 (hb hy d9_4) (XT.i0_eq_t (by decide)) (by decide) rfl <| o_aloadN W1 17 (hb hy d9_16) rfl rfl rfl ?_
  have c2 := (z3.keep K1 nin0)
  refine o_getF W1 (w25 hw) Via.refl c2 20 (hb hy d9_17) rfl ?_
  intro T3 W3
  refine o_iloadN W3 21 (hb hy d9_20) rfl rfl ?_
  have c4 := (z4.keep K1 nin0)
  refine o_staticC W3 (w103 hw) (w104 hw) (w73 hw) (w105 hw) (by decide) (rm187 l hw gF a2 z0 x1 x2 x3 x4 h1 W3.old c4 SgF NgF z5 z6 z7 hu5) 0 0 0 (by decide) (by rw [hml]; rfl) (lenOf pd11 rfl) [] rfl rfl 24 (hb hy d9_21) rfl rfl rfl all0 tri ?_
  intro v6 T6 h6 lo6 W6 K6 q6
  obtain rfl := q6.2.2
  show Gl _ _ _ _ _ _ _ _ [(.int x2)]
  exact o_retN W6 hlk (t := .char) hret (by simp) (z' := x2) (own_i2cc hu5) (hb hy d9_24) (by decide) (by decide) rfl
theorem rm189 (l : Launch) {Z a0} (hw : HW Z a0) (gF : Value) (a1 : Addr) (z0 : ClassId) (x1 x2 x3 x4 : Int32) (h0 : Heap) (O0 : Old Z Z.heap.size h0) (z1 : Arv Z h0 a1 z0 .byte 8 [(.int (bH x1)), (.int (bL x1)), (.int (bH x2)), (.int (bL x2)), (.int (bH x3)), (.int (bL x3)), (.int (bH x4)), (.int (bL x4))] iZ) (SgF : Sta Z Z.heap s2 s3 s4 gF) (NgF : gF.isRef = true) :
    CtrN l Z mn22 jdk_52_method_91_code 2 none [] (⟨2, 0, 0, 27⟩ : Room) #[(.int 2), (.ref a1)] h0 [] (fun v h => v = none) := by
  refine CtrN.intro (L0 := #[vi 2, vr a1]) (plainFor_of_name pn3) O0 (own_entry rfl) ?_
  intro p e s m below meth c T0 hy hml hret hlk hnm W0
  refine o_iloadN W0 1 (hb hy d24_0) rfl rfl <| o_aloadN W0 2 (hb hy d24_1) rfl rfl rfl ?_
  refine o_staticC W0 (w109 hw) (w110 hw) (w73 hw) (w111 hw) (by decide) (rm180 l hw a1 z0 x1 x2 x3 x4 h0 W0.old z1) 1 0 0 (by decide) (by rw [hml]; rfl) (lenOf pd15 rfl) [(.int 2)] rfl rfl 5 (hb hy d24_2) rfl rfl rfl all0 tri ?_
  intro v1 T1 h1 lo1 W1 K1 q1
  obtain rfl := q1.2.2
  show Gl _ _ _ _ _ _ _ _ [(.int 4), (.int 2)]
  refine o_staticC W1 (w112 hw) (w64 hw) (w8 hw) (w65 hw) (by decide) (rm158 l hw gF h1 W1.old SgF NgF) 0 0 0 (by decide) (by rw [hml]; rfl) (lenOf pd10 rfl) [] rfl rfl 8 (hb hy d24_5) rfl rfl rfl all0 tri ?_
  intro v2 T2 h2 lo2 W2 K2 q2
  obtain rfl := q2.2.2
  show Gl _ _ _ _ _ _ _ _ []
  exact o_ret0 W2 hlk hret (hb hy d24_8) (by decide) (by decide) rfl
theorem rm190 (l : Launch) {Z a0} (hw : HW Z a0) (a1 : Addr) (z0 : ClassId) (x1 x2 x3 x4 : Int32) (h0 : Heap) (O0 : Old Z Z.heap.size h0) (z1 : Sta Z Z.heap s1 s5 "Z" (.int 1)) (z2 : Arv Z h0 a1 z0 .byte 8 [(.int (bH x1)), (.int (bL x1)), (.int (bH x2)), (.int (bL x2)), (.int (bH x3)), (.int (bL x3)), (.int (bH x4)), (.int (bL x4))] iZ) (z3 : Sta Z Z.heap s1 s6 "I" iZ) (z4 : Sta Z Z.heap s1 s7 "I" (.int 8)) (hu4 : own_c x3) :
    CtrN l Z mn20 jdk_52_method_5_code 2 (some .char) [] (⟨0, 0, 0, 0⟩ : Room) #[(.ref a1), (.int 2)] h0 [] (fun v h => v = some (.int x3)) := by
  refine CtrN.intro (L0 := #[vr a1, vi 2]) (plainFor_of_name pn3) O0 (own_entry rfl) ?_
  intro p e s m below meth c T0 hy hml hret hlk hnm W0
  refine o_getS W0 (w97 hw) Via.refl (z1.ext W0.ox) 3 (hb hy d22_0) rfl ?_
  intro T1 W1
  refine o_ifY W1 28 (hb hy d22_3) (XT.i0_ne_t (by decide)) (by decide) rfl <| o_iloadN W1 29 (hb hy d22_28) rfl rfl <| o_iconst W1 (v := 1) 30 (hb hy d22_29) rfl rfl <| o_ishl W1 (v := 4) 31 (hb hy d22_30) (by decide) rfl <| o_istoreN W1 (L' := #[vr a1, vi 4]) 32 (hb hy d22_31) rfl rfl <| o_aloadN W1 33 (hb hy d22_32) rfl rfl rfl ?_
  refine o_iloadN W1 34 (hb hy d22_33) rfl rfl <| o_iinc W1 (v := 5) (L' := #[vr a1, vi 5]) 37 (hb hy d22_34) rfl (by decide) rfl rfl <| o_baload W1 z2 (x := (bH x3)) (i := 4) (by decide) (by decide) (by decide) rfl 38 (hb hy d22_37) rfl <| o_sipush W1 (v := 255) 41 (hb hy d22_38) (by decide) rfl <| o_iand W1 (v := ((bH x3) &&& 255)) 42 (hb hy d22_41) rfl rfl ?_
  refine o_getS W1 (w98 hw) Via.refl (z3.ext W1.ox) 45 (hb hy d22_42) rfl ?_
  intro T2 W2
  refine o_ishl W2 (v := (((bH x3) &&& 255) <<< ((0 : Int32) &&& 31))) 46 (hb hy d22_45) rfl rfl <| o_aloadN W2 47 (hb hy d22_46) rfl rfl rfl <| o_iloadN W2 48 (hb hy d22_47) rfl rfl <| o_baload W2 z2 (x := (bL x3)) (i := 5) (by decide) (by decide) (by decide) rfl 49 (hb hy d22_48) rfl <| o_sipush W2 (v := 255) 52 (hb hy d22_49) (by decide) rfl <| o_iand W2 (v := ((bL x3) &&& 255)) 53 (hb hy d22_52) rfl rfl ?_
  refine o_getS W2 (w99 hw) Via.refl (z4.ext W2.ox) 56 (hb hy d22_53) rfl ?_
  intro T3 W3
  refine o_ishl W3 (v := (((bL x3) &&& 255) <<< ((8 : Int32) &&& 31))) 57 (hb hy d22_56) rfl rfl <| o_ior W3 (v := ((((bH x3) &&& 255) <<< ((0 : Int32) &&& 31)) ||| (((bL x3) &&& 255) <<< ((8 : Int32) &&& 31)))) 58 (hb hy d22_57) rfl rfl <| o_i2c W3 (v := x3) 59 (hb hy d22_58) (own_join hu4) rfl ?_
  exact o_retN W3 hlk (t := .char) hret (by simp) (z' := x3) (own_i2cc hu4) (hb hy d22_59) (by decide) (by decide) rfl
theorem rm191 (l : Launch) {Z a0} (hw : HW Z a0) (gF : Value) (a1 : Addr) (z0 : ClassId) (x1 x2 x3 x4 : Int32) (h0 : Heap) (O0 : Old Z Z.heap.size h0) (z1 : Arv Z h0 a1 z0 .byte 8 [(.int (bH x1)), (.int (bL x1)), (.int (bH x2)), (.int (bL x2)), (.int (bH x3)), (.int (bL x3)), (.int (bH x4)), (.int (bL x4))] iZ) (SgF : Sta Z Z.heap s2 s3 s4 gF) (NgF : gF.isRef = true) (z2 : Sta Z Z.heap s1 s5 "Z" (.int 1)) (z3 : Sta Z Z.heap s1 s6 "I" iZ) (z4 : Sta Z Z.heap s1 s7 "I" (.int 8)) (hu3 : own_c x3) :
    CtrN l Z mn23 jdk_52_method_83_code 2 (some .char) [] (⟨3, 0, 0, 40⟩ : Room) #[(.ref a1), (.int 2)] h0 [] (fun v h => v = some (.int x3)) := by
  refine CtrN.intro (L0 := #[vr a1, vi 2]) (plainFor_of_name pn3) O0 (own_entry rfl) ?_
  intro p e s m below meth c T0 hy hml hret hlk hnm W0
  refine o_iloadN W0 1 (hb hy d23_0) rfl rfl <| o_aloadN W0 2 (hb hy d23_1) rfl rfl rfl ?_
  refine o_staticC W0 (w106 hw) (w107 hw) (w73 hw) (w108 hw) (by decide) (rm189 l hw gF a1 z0 x1 x2 x3 x4 h0 W0.old z1 SgF NgF) 0 0 0 (by decide) (by rw [hml]; rfl) (lenOf pd16 rfl) [] rfl rfl 5 (hb hy d23_2) rfl rfl rfl all0 tri ?_
  intro v1 T1 h1 lo1 W1 K1 q1
  obtain rfl := q1.2.2
  show Gl _ _ _ _ _ _ _ _ []
  refine o_aloadN W1 6 (hb hy d23_5) rfl rfl rfl <| o_iloadN W1 7 (hb hy d23_6) rfl rfl ?_
  have c2 := (z1.keep K1 nin0)
  refine o_staticC W1 (w100 hw) (w101 hw) (w73 hw) (w102 hw) (by decide) (rm190 l hw a1 z0 x1 x2 x3 x4 h1 W1.old z2 c2 z3 z4 hu3) 0 0 0 (by decide) (by rw [hml]; rfl) (lenOf pd11 rfl) [] rfl rfl 10 (hb hy d23_7) rfl rfl rfl all0 tri ?_
  intro v4 T4 h4 lo4 W4 K4 q4
  obtain rfl := q4.2.2
  show Gl _ _ _ _ _ _ _ _ [(.int x3)]
  exact o_retN W4 hlk (t := .char) hret (by simp) (z' := x3) (own_i2cc hu3) (hb hy d23_10) (by decide) (by decide) rfl
theorem rm192 (l : Launch) {Z a0} (hw : HW Z a0) (gCS : Int32) (gF : Value) (a1 a2 : Addr) (z0 : ClassId) (x1 x2 x3 x4 : Int32) (h0 : Heap) (O0 : Old Z Z.heap.size h0) (z1 : Exa Z h0 a1 s0) (SgCS : Sta Z Z.heap s0 s8 "Z" (.int gCS)) (NgCS : ¬ (gCS = (0 : Int32))) (z2 : Fld Z h0 a1 s0 "coder" "B" (.int 1)) (z3 : Fld Z h0 a1 s0 "value" "[B" (.ref a2)) (z4 : Arv Z h0 a2 z0 .byte 8 [(.int (bH x1)), (.int (bL x1)), (.int (bH x2)), (.int (bL x2)), (.int (bH x3)), (.int (bL x3)), (.int (bH x4)), (.int (bL x4))] iZ) (SgF : Sta Z Z.heap s2 s3 s4 gF) (NgF : gF.isRef = true) (z5 : Sta Z Z.heap s1 s5 "Z" (.int 1)) (z6 : Sta Z Z.heap s1 s6 "I" iZ) (z7 : Sta Z Z.heap s1 s7 "I" (.int 8)) (hu5 : own_c x3) :
    CtrN l Z mn2 jdk_42_method_56_code 2 (some .char) [] (⟨5, 0, 0, 70⟩ : Room) #[(.ref a1), (.int 2)] h0 [] (fun v h => v = some (.int x3)) := by
  refine CtrN.intro (L0 := #[vr a1, vi 2]) (plainFor_of_name pn1) O0 (own_entry rfl) ?_
  intro p e s m below meth c T0 hy hml hret hlk hnm W0
  refine o_aloadN W0 1 (hb hy d9_0) rfl rfl rfl ?_
  refine o_virtualC W0 (w54 hw) (w55 hw) (o_nf W0 rfl (w57 hw)) (w57 hw) (w56 hw) (by decide) z1 (w58 hw) (w8 hw) (rm32 l hw gCS a1 h0 W0.old SgCS NgCS z2) 0 0 0 (by decide) (by rw [hml]; rfl) (lenOf pd3 rfl) [] rfl rfl 4 (hb hy d9_1) rfl rfl rfl all0 tri ?_
  intro v1 T1 h1 lo1 W1 K1 q1
  obtain rfl := q1.2.2
  show Gl _ _ _ _ _ _ _ _ [iZ]
  refine o_ifY W1 16 (hb hy d9_4) (XT.i0_eq_t (by decide)) (by decide) rfl <| o_aloadN W1 17 (hb hy d9_16) rfl rfl rfl ?_
  have c2 := (z3.keep K1 nin0)
  refine o_getF W1 (w25 hw) Via.refl c2 20 (hb hy d9_17) rfl ?_
  intro T3 W3
  refine o_iloadN W3 21 (hb hy d9_20) rfl rfl ?_
  have c4 := (z4.keep K1 nin0)
  refine o_staticC W3 (w103 hw) (w104 hw) (w73 hw) (w105 hw) (by decide) (rm191 l hw gF a2 z0 x1 x2 x3 x4 h1 W3.old c4 SgF NgF z5 z6 z7 hu5) 0 0 0 (by decide) (by rw [hml]; rfl) (lenOf pd11 rfl) [] rfl rfl 24 (hb hy d9_21) rfl rfl rfl all0 tri ?_
  intro v6 T6 h6 lo6 W6 K6 q6
  obtain rfl := q6.2.2
  show Gl _ _ _ _ _ _ _ _ [(.int x3)]
  exact o_retN W6 hlk (t := .char) hret (by simp) (z' := x3) (own_i2cc hu5) (hb hy d9_24) (by decide) (by decide) rfl
theorem rm193 (l : Launch) {Z a0} (hw : HW Z a0) (gF : Value) (a1 : Addr) (z0 : ClassId) (x1 x2 x3 x4 : Int32) (h0 : Heap) (O0 : Old Z Z.heap.size h0) (z1 : Arv Z h0 a1 z0 .byte 8 [(.int (bH x1)), (.int (bL x1)), (.int (bH x2)), (.int (bL x2)), (.int (bH x3)), (.int (bL x3)), (.int (bH x4)), (.int (bL x4))] iZ) (SgF : Sta Z Z.heap s2 s3 s4 gF) (NgF : gF.isRef = true) :
    CtrN l Z mn22 jdk_52_method_91_code 2 none [] (⟨2, 0, 0, 27⟩ : Room) #[(.int 3), (.ref a1)] h0 [] (fun v h => v = none) := by
  refine CtrN.intro (L0 := #[vi 3, vr a1]) (plainFor_of_name pn3) O0 (own_entry rfl) ?_
  intro p e s m below meth c T0 hy hml hret hlk hnm W0
  refine o_iloadN W0 1 (hb hy d24_0) rfl rfl <| o_aloadN W0 2 (hb hy d24_1) rfl rfl rfl ?_
  refine o_staticC W0 (w109 hw) (w110 hw) (w73 hw) (w111 hw) (by decide) (rm180 l hw a1 z0 x1 x2 x3 x4 h0 W0.old z1) 1 0 0 (by decide) (by rw [hml]; rfl) (lenOf pd15 rfl) [(.int 3)] rfl rfl 5 (hb hy d24_2) rfl rfl rfl all0 tri ?_
  intro v1 T1 h1 lo1 W1 K1 q1
  obtain rfl := q1.2.2
  show Gl _ _ _ _ _ _ _ _ [(.int 4), (.int 3)]
  refine o_staticC W1 (w112 hw) (w64 hw) (w8 hw) (w65 hw) (by decide) (rm163 l hw gF h1 W1.old SgF NgF) 0 0 0 (by decide) (by rw [hml]; rfl) (lenOf pd10 rfl) [] rfl rfl 8 (hb hy d24_5) rfl rfl rfl all0 tri ?_
  intro v2 T2 h2 lo2 W2 K2 q2
  obtain rfl := q2.2.2
  show Gl _ _ _ _ _ _ _ _ []
  exact o_ret0 W2 hlk hret (hb hy d24_8) (by decide) (by decide) rfl
theorem rm194 (l : Launch) {Z a0} (hw : HW Z a0) (gF : Value) (a1 : Addr) (z0 : ClassId) (x1 x2 x3 x4 : Int32) (h0 : Heap) (O0 : Old Z Z.heap.size h0) (z1 : Arv Z h0 a1 z0 .byte 8 [(.int (bH x1)), (.int (bL x1)), (.int (bH x2)), (.int (bL x2)), (.int (bH x3)), (.int (bL x3)), (.int (bH x4)), (.int (bL x4))] iZ) (SgF : Sta Z Z.heap s2 s3 s4 gF) (NgF : gF.isRef = true) (z2 : Sta Z Z.heap s1 s5 "Z" (.int 1)) (z3 : Sta Z Z.heap s1 s6 "I" iZ) (z4 : Sta Z Z.heap s1 s7 "I" (.int 8)) (hu3 : own_c x4) :
    CtrN l Z mn23 jdk_52_method_83_code 2 (some .char) [] (⟨3, 0, 0, 40⟩ : Room) #[(.ref a1), (.int 3)] h0 [] (fun v h => v = some (.int x4)) := by
  refine CtrN.intro (L0 := #[vr a1, vi 3]) (plainFor_of_name pn3) O0 (own_entry rfl) ?_
  intro p e s m below meth c T0 hy hml hret hlk hnm W0
  refine o_iloadN W0 1 (hb hy d23_0) rfl rfl <| o_aloadN W0 2 (hb hy d23_1) rfl rfl rfl ?_
  refine o_staticC W0 (w106 hw) (w107 hw) (w73 hw) (w108 hw) (by decide) (rm193 l hw gF a1 z0 x1 x2 x3 x4 h0 W0.old z1 SgF NgF) 0 0 0 (by decide) (by rw [hml]; rfl) (lenOf pd16 rfl) [] rfl rfl 5 (hb hy d23_2) rfl rfl rfl all0 tri ?_
  intro v1 T1 h1 lo1 W1 K1 q1
  obtain rfl := q1.2.2
  show Gl _ _ _ _ _ _ _ _ []
  refine o_aloadN W1 6 (hb hy d23_5) rfl rfl rfl <| o_iloadN W1 7 (hb hy d23_6) rfl rfl ?_
  have c2 := (z1.keep K1 nin0)
  refine o_staticC W1 (w100 hw) (w101 hw) (w73 hw) (w102 hw) (by decide) (rm174 l hw a1 z0 x1 x2 x3 x4 h1 W1.old z2 c2 z3 z4 hu3) 0 0 0 (by decide) (by rw [hml]; rfl) (lenOf pd11 rfl) [] rfl rfl 10 (hb hy d23_7) rfl rfl rfl all0 tri ?_
  intro v4 T4 h4 lo4 W4 K4 q4
  obtain rfl := q4.2.2
  show Gl _ _ _ _ _ _ _ _ [(.int x4)]
  exact o_retN W4 hlk (t := .char) hret (by simp) (z' := x4) (own_i2cc hu3) (hb hy d23_10) (by decide) (by decide) rfl
theorem rm195 (l : Launch) {Z a0} (hw : HW Z a0) (gCS : Int32) (gF : Value) (a1 a2 : Addr) (z0 : ClassId) (x1 x2 x3 x4 : Int32) (h0 : Heap) (O0 : Old Z Z.heap.size h0) (z1 : Exa Z h0 a1 s0) (SgCS : Sta Z Z.heap s0 s8 "Z" (.int gCS)) (NgCS : ¬ (gCS = (0 : Int32))) (z2 : Fld Z h0 a1 s0 "coder" "B" (.int 1)) (z3 : Fld Z h0 a1 s0 "value" "[B" (.ref a2)) (z4 : Arv Z h0 a2 z0 .byte 8 [(.int (bH x1)), (.int (bL x1)), (.int (bH x2)), (.int (bL x2)), (.int (bH x3)), (.int (bL x3)), (.int (bH x4)), (.int (bL x4))] iZ) (SgF : Sta Z Z.heap s2 s3 s4 gF) (NgF : gF.isRef = true) (z5 : Sta Z Z.heap s1 s5 "Z" (.int 1)) (z6 : Sta Z Z.heap s1 s6 "I" iZ) (z7 : Sta Z Z.heap s1 s7 "I" (.int 8)) (hu5 : own_c x4) :
    CtrN l Z mn2 jdk_42_method_56_code 2 (some .char) [] (⟨5, 0, 0, 70⟩ : Room) #[(.ref a1), (.int 3)] h0 [] (fun v h => v = some (.int x4)) := by
  refine CtrN.intro (L0 := #[vr a1, vi 3]) (plainFor_of_name pn1) O0 (own_entry rfl) ?_
  intro p e s m below meth c T0 hy hml hret hlk hnm W0
  refine o_aloadN W0 1 (hb hy d9_0) rfl rfl rfl ?_
  refine o_virtualC W0 (w54 hw) (w55 hw) (o_nf W0 rfl (w57 hw)) (w57 hw) (w56 hw) (by decide) z1 (w58 hw) (w8 hw) (rm32 l hw gCS a1 h0 W0.old SgCS NgCS z2) 0 0 0 (by decide) (by rw [hml]; rfl) (lenOf pd3 rfl) [] rfl rfl 4 (hb hy d9_1) rfl rfl rfl all0 tri ?_
  intro v1 T1 h1 lo1 W1 K1 q1
  obtain rfl := q1.2.2
  show Gl _ _ _ _ _ _ _ _ [iZ]
  refine o_ifY W1 16 (hb hy d9_4) (XT.i0_eq_t (by decide)) (by decide) rfl <| o_aloadN W1 17 (hb hy d9_16) rfl rfl rfl ?_
  have c2 := (z3.keep K1 nin0)
  refine o_getF W1 (w25 hw) Via.refl c2 20 (hb hy d9_17) rfl ?_
  intro T3 W3
  refine o_iloadN W3 21 (hb hy d9_20) rfl rfl ?_
  have c4 := (z4.keep K1 nin0)
  refine o_staticC W3 (w103 hw) (w104 hw) (w73 hw) (w105 hw) (by decide) (rm194 l hw gF a2 z0 x1 x2 x3 x4 h1 W3.old c4 SgF NgF z5 z6 z7 hu5) 0 0 0 (by decide) (by rw [hml]; rfl) (lenOf pd11 rfl) [] rfl rfl 24 (hb hy d9_21) rfl rfl rfl all0 tri ?_
  intro v6 T6 h6 lo6 W6 K6 q6
  obtain rfl := q6.2.2
  show Gl _ _ _ _ _ _ _ _ [(.int x4)]
  exact o_retN W6 hlk (t := .char) hret (by simp) (z' := x4) (own_i2cc hu5) (hb hy d9_24) (by decide) (by decide) rfl
theorem rm196 (l : Launch) {Z a0} (hw : HW Z a0) (a1 a2 : Addr) (z0 : ClassId) (x1 x2 x3 x4 : Int32) (z1 : ClassId) (h0 : Heap) (O0 : Old Z Z.heap.size h0) (z2 : Arv Z h0 a1 z0 .char 4 [(.int x1), (.int x2), (.int x3), (.int x4)] iZ) (hu1 : own_c x1) (hc2 : ¬ ((255 : Int32) < x1)) (z3 : Arv Z h0 a2 z1 .byte 4 [iZ, iZ, iZ, iZ] iZ) (z4 : Z.heap.size ≤ a2) (z5 : a1 ≠ a2) (hu5 : own_c x2) (hc6 : ¬ ((255 : Int32) < x2)) (hu9 : own_c x3) (hc10 : (255 : Int32) < x3) :
    CtrN l Z mn8 jdk_52_method_21_code 7 (some .int) [] (⟨0, 0, 0, 0⟩ : Room) #[(.ref a1), iZ, (.ref a2), iZ, (.int 4)] h0 [a2] (fun v h => Arv Z h a2 z1 .byte 4 [(.int (bB x1)), (.int (bB x2)), iZ, iZ] iZ ∧ v = some (.int 2)) := by
  refine CtrN.intro (L0 := #[vr a1, vi 0, vr a2, vi 0, vi 4, un, un]) (plainFor_of_name pn3) O0 (own_entry rfl) ?_
  intro p e s m below meth c T0 hy hml hret hlk hnm W0
  refine o_iconst W0 (v := 0) 1 (hb hy d15_0) rfl rfl <| o_istore W0 (L' := #[vr a1, vi 0, vr a2, vi 0, vi 4, vi 0, un]) 3 (hb hy d15_1) rfl rfl <| o_iload W0 5 (hb hy d15_3) rfl rfl <| o_iload W0 7 (hb hy d15_5) rfl rfl <| o_icmpN W0 10 (hb hy d15_7) (XT.ii_ge_f (by decide)) rfl <| o_aloadN W0 11 (hb hy d15_10) rfl rfl rfl ?_
  refine o_iloadN W0 12 (hb hy d15_11) rfl rfl <| o_caload W0 z2 (x := x1) (i := 0) (by decide) (by decide) (by decide) rfl 13 (hb hy d15_12) rfl <| o_istore W0 (L' := #[vr a1, vi 0, vr a2, vi 0, vi 4, vi 0, vi x1]) 15 (hb hy d15_13) rfl rfl <| o_iload W0 17 (hb hy d15_15) rfl rfl <| o_sipush W0 (v := 255) 20 (hb hy d15_17) (by decide) rfl <| o_icmpY W0 26 (hb hy d15_20) (XT.ii_le_t (own_cb hu1 hc2).2) (by decide) rfl ?_
  refine o_aloadN W0 27 (hb hy d15_26) rfl rfl rfl <| o_iloadN W0 28 (hb hy d15_27) rfl rfl <| o_iload W0 30 (hb hy d15_28) rfl rfl <| o_i2b W0 (v := (bB x1)) 31 (hb hy d15_30) rfl rfl ?_
  refine o_stB W0 z3 (i := 0) (x' := (bB x1)) (by decide) (by decide) (by decide) (Nat.lt_of_sub_eq_succ rfl) (own_b8 _) (vs' := [(.int (bB x1)), iZ, iZ, iZ]) rfl z4 m0 tri 32 (hb hy d15_31) rfl ?_
  intro T3 h3 lo3 W3 R3 V3
  refine o_iinc W3 (v := 1) (L' := #[vr a1, vi 1, vr a2, vi 0, vi 4, vi 0, vi x1]) 35 (hb hy d15_32) rfl (by decide) rfl rfl <| o_iinc W3 (v := 1) (L' := #[vr a1, vi 1, vr a2, vi 1, vi 4, vi 0, vi x1]) 38 (hb hy d15_35) rfl (by decide) rfl rfl <| o_iinc W3 (v := 1) (L' := #[vr a1, vi 1, vr a2, vi 1, vi 4, vi 1, vi x1]) 41 (hb hy d15_38) rfl (by decide) rfl rfl <| o_goto W3 3 (hb hy d15_41) (by decide) rfl <| o_iload W3 5 (hb hy d15_3) rfl rfl <| o_iload W3 7 (hb hy d15_5) rfl rfl ?_
  refine o_icmpN W3 10 (hb hy d15_7) (XT.ii_ge_f (by decide)) rfl <| o_aloadN W3 11 (hb hy d15_10) rfl rfl rfl <| o_iloadN W3 12 (hb hy d15_11) rfl rfl ?_
  have c4 := (z2.other R3 z5)
  refine o_caload W3 c4 (x := x2) (i := 1) (by decide) (by decide) (by decide) rfl 13 (hb hy d15_12) rfl <| o_istore W3 (L' := #[vr a1, vi 1, vr a2, vi 1, vi 4, vi 1, vi x2]) 15 (hb hy d15_13) rfl rfl <| o_iload W3 17 (hb hy d15_15) rfl rfl <| o_sipush W3 (v := 255) 20 (hb hy d15_17) (by decide) rfl <| o_icmpY W3 26 (hb hy d15_20) (XT.ii_le_t (own_cb hu5 hc6).2) (by decide) rfl <| o_aloadN W3 27 (hb hy d15_26) rfl rfl rfl ?_
  refine o_iloadN W3 28 (hb hy d15_27) rfl rfl <| o_iload W3 30 (hb hy d15_28) rfl rfl <| o_i2b W3 (v := (bB x2)) 31 (hb hy d15_30) rfl rfl ?_
  refine o_stB W3 V3 (i := 1) (x' := (bB x2)) (by decide) (by decide) (by decide) (Nat.lt_of_sub_eq_succ rfl) (own_b8 _) (vs' := [(.int (bB x1)), (.int (bB x2)), iZ, iZ]) rfl z4 m0 tri 32 (hb hy d15_31) rfl ?_
  intro T7 h7 lo7 W7 R7 V7
  refine o_iinc W7 (v := 2) (L' := #[vr a1, vi 2, vr a2, vi 1, vi 4, vi 1, vi x2]) 35 (hb hy d15_32) rfl (by decide) rfl rfl <| o_iinc W7 (v := 2) (L' := #[vr a1, vi 2, vr a2, vi 2, vi 4, vi 1, vi x2]) 38 (hb hy d15_35) rfl (by decide) rfl rfl <| o_iinc W7 (v := 2) (L' := #[vr a1, vi 2, vr a2, vi 2, vi 4, vi 2, vi x2]) 41 (hb hy d15_38) rfl (by decide) rfl rfl <| o_goto W7 3 (hb hy d15_41) (by decide) rfl <| o_iload W7 5 (hb hy d15_3) rfl rfl <| o_iload W7 7 (hb hy d15_5) rfl rfl ?_
  refine o_icmpN W7 10 (hb hy d15_7) (XT.ii_ge_f (by decide)) rfl <| o_aloadN W7 11 (hb hy d15_10) rfl rfl rfl <| o_iloadN W7 12 (hb hy d15_11) rfl rfl ?_
  have c8 := (c4.other R7 z5)
  refine o_caload W7 c8 (x := x3) (i := 2) (by decide) (by decide) (by decide) rfl 13 (hb hy d15_12) rfl <| o_istore W7 (L' := #[vr a1, vi 2, vr a2, vi 2, vi 4, vi 2, vi x3]) 15 (hb hy d15_13) rfl rfl <| o_iload W7 17 (hb hy d15_15) rfl rfl <| o_sipush W7 (v := 255) 20 (hb hy d15_17) (by decide) rfl <| o_icmpN W7 23 (hb hy d15_20) (XT.ii_le_f hc10) rfl <| o_iload W7 25 (hb hy d15_23) rfl rfl ?_
  exact o_retI W7 hlk hret (hb hy d15_25) (by decide) (by decide) ⟨V7, rfl⟩
theorem rm197 (l : Launch) {Z a0} (hw : HW Z a0) (a1 : Addr) (z0 : ClassId) (x1 x2 x3 x4 : Int32) (h0 : Heap) (O0 : Old Z Z.heap.size h0) (z1 : Arv Z h0 a1 z0 .char 4 [(.int x1), (.int x2), (.int x3), (.int x4)] iZ) (hu3 : own_c x1) (hc4 : ¬ ((255 : Int32) < x1)) (hu5 : own_c x2) (hc6 : ¬ ((255 : Int32) < x2)) (hu7 : own_c x3) (hc8 : (255 : Int32) < x3) (z2 : Sta Z Z.heap s1 s5 "Z" (.int 1)) (z3 : Sta Z Z.heap s1 s6 "I" iZ) (z4 : Sta Z Z.heap s1 s7 "I" (.int 8)) :
    CtrN l Z mn9 jdk_52_method_16_code 6 (some (.array .byte)) [] (⟨3, 2, 12, 40⟩ : Room) #[(.ref a1), iZ, (.int 4)] h0 [] (fun v h => ∃ r1 : Addr, ∃ r2 : ClassId, h0.size ≤ r1 ∧ Arv Z h r1 r2 .byte 8 [(.int (bH x1)), (.int (bL x1)), (.int (bH x2)), (.int (bL x2)), (.int (bH x3)), (.int (bL x3)), (.int (bH x4)), (.int (bL x4))] iZ ∧ v = some (.ref r1)) := by
  refine CtrN.intro (L0 := #[vr a1, vi 0, vi 4, un, un, un]) (plainFor_of_name pn3) O0 (own_entry rfl) ?_
  intro p e s m below meth c T0 hy hml hret hlk hnm W0
  refine o_iloadN W0 1 (hb hy d14_0) rfl rfl ?_
  refine o_newP W0 (aty := .byte) (w20 hw) tri (by decide) (cap := 4) (by decide) (by decide) 3 (hb hy d14_1) rfl (cells' := 1) (slots' := 4) rfl rfl (by decide) (by decide) (vs := [iZ, iZ, iZ, iZ]) (dv := iZ) rfl rfl ?_
  intro b1 T1 h1 k1 W1 E1 ge1 gz1 gb1 V1
  refine o_astoreN W1 (L' := #[vr a1, vi 0, vi 4, vr b1, un, un]) 4 (hb hy d14_3) rfl rfl rfl <| o_aloadN W1 5 (hb hy d14_4) rfl rfl rfl <| o_iloadN W1 6 (hb hy d14_5) rfl rfl <| o_aloadN W1 7 (hb hy d14_6) rfl rfl rfl <| o_iconst W1 (v := 0) 8 (hb hy d14_7) rfl rfl <| o_iloadN W1 9 (hb hy d14_8) rfl rfl ?_
  have c2 := (z1.ext E1)
  refine o_staticC W1 (w75 hw) (w76 hw) (w73 hw) (w77 hw) (by decide) (rm196 l hw a1 b1 z0 x1 x2 x3 x4 k1 h1 W1.old c2 hu3 hc4 V1 gz1 (own_ne z1.lt ge1) hu5 hc6 hu7 hc8) 0 1 4 (by decide) (by rw [hml]; rfl) (lenOf pd5 rfl) [] rfl rfl 12 (hb hy d14_9) rfl rfl rfl (allS ⟨gz1, (Or.inr gb1)⟩ all0) tri ?_
  intro v9 T9 h9 lo9 W9 K9 q9
  obtain ⟨P9_0, rfl⟩ := q9.2.2
  show Gl _ _ _ _ _ _ _ _ [(.int 2)]
  refine o_istore W9 (L' := #[vr a1, vi 0, vi 4, vr b1, vi 2, un]) 14 (hb hy d14_12) rfl rfl <| o_iload W9 16 (hb hy d14_14) rfl rfl <| o_iloadN W9 17 (hb hy d14_16) rfl rfl <| o_icmpN W9 20 (hb hy d14_17) (XT.ii_eq_f (by decide)) rfl <| o_aloadN W9 21 (hb hy d14_20) rfl rfl rfl <| o_iloadN W9 22 (hb hy d14_21) rfl rfl ?_
  refine o_iloadN W9 23 (hb hy d14_22) rfl rfl ?_
  have c10 := (c2.keep K9 (ninS (own_ne z1.lt ge1) nin0))
  refine o_staticC W9 (w84 hw) (w85 hw) (w73 hw) (w86 hw) (by decide) (rm173 l hw a1 z0 x1 x2 x3 x4 h9 W9.old c10 z2 z3 z4) 0 2 12 (by decide) (by rw [hml]; rfl) (lenOf pd6 rfl) [] rfl rfl 26 (hb hy d14_23) rfl rfl rfl all0 tri ?_
  intro v11 T11 h11 lo11 W11 K11 q11
  obtain ⟨r1_11, r2_11, P11_0, P11_1, rfl⟩ := q11.2.2
  show Gl _ _ _ _ _ _ _ _ [(.ref r1_11)]
  refine o_astore W11 (L' := #[vr a1, vi 0, vi 4, vr b1, vi 2, vr r1_11]) 28 (hb hy d14_26) rfl rfl rfl <| o_aload W11 30 (hb hy d14_28) rfl rfl rfl <| o_iload W11 32 (hb hy d14_30) rfl rfl ?_
  refine o_staticC W11 (w100 hw) (w101 hw) (w73 hw) (w102 hw) (by decide) (rm190 l hw r1_11 r2_11 x1 x2 x3 x4 h11 W11.old z2 P11_1 z3 z4 hu7) 0 2 12 (by decide) (by rw [hml]; rfl) (lenOf pd11 rfl) [] rfl rfl 35 (hb hy d14_32) rfl rfl rfl all0 tri ?_
  intro v12 T12 h12 lo12 W12 K12 q12
  obtain rfl := q12.2.2
  show Gl _ _ _ _ _ _ _ _ [(.int x3)]
  refine o_sipush W12 (v := 255) 38 (hb hy d14_35) (by decide) rfl <| o_icmpY W12 54 (hb hy d14_38) (XT.ii_gt_t hc8) (by decide) rfl <| o_aload W12 56 (hb hy d14_54) rfl rfl rfl ?_
  have c13 := (P11_1.keep K12 nin0)
  exact o_retA W12 hlk (v := (.ref r1_11)) hret rfl rfl (hb hy d14_56) (by decide) (by decide) ⟨r1_11, r2_11, (Nat.le_trans W9.keep.1 P11_0), c13, rfl⟩
theorem rm198 (l : Launch) {Z a0} (hw : HW Z a0) (gCS : Int32) (a1 a2 : Addr) (z0 : ClassId) (x1 x2 x3 x4 : Int32) (h0 : Heap) (O0 : Old Z Z.heap.size h0) (SgCS : Sta Z Z.heap s0 s8 "Z" (.int gCS)) (NgCS : ¬ (gCS = (0 : Int32))) (z1 : Arv Z h0 a2 z0 .char 4 [(.int x1), (.int x2), (.int x3), (.int x4)] iZ) (hu3 : own_c x1) (hc4 : ¬ ((255 : Int32) < x1)) (hu5 : own_c x2) (hc6 : ¬ ((255 : Int32) < x2)) (hu7 : own_c x3) (hc8 : (255 : Int32) < x3) (z2 : Sta Z Z.heap s1 s5 "Z" (.int 1)) (z3 : Sta Z Z.heap s1 s6 "I" iZ) (z4 : Sta Z Z.heap s1 s7 "I" (.int 8)) (z5 : Exa Z h0 a1 s0) (z6 : Fld Z h0 a1 s0 "coder" "B" iZ) (z7 : Z.heap.size ≤ a1) (z8 : Fld Z h0 a1 s0 "value" "[B" .null) :
    CtrN l Z mn5 jdk_42_method_149_code 6 none [] (⟨4, 2, 12, 57⟩ : Room) #[(.ref a1), (.ref a2), iZ, (.int 4), .null] h0 [a1] (fun v h => ∃ r1 : Addr, ∃ r2 : ClassId, h0.size ≤ r1 ∧ Fld Z h a1 s0 "coder" "B" (.int 1) ∧ Fld Z h a1 s0 "value" "[B" (.ref r1) ∧ Arv Z h r1 r2 .byte 8 [(.int (bH x1)), (.int (bL x1)), (.int (bH x2)), (.int (bL x2)), (.int (bH x3)), (.int (bL x3)), (.int (bH x4)), (.int (bL x4))] iZ ∧ v = none) := by
  refine CtrN.intro (L0 := #[vr a1, vr a2, vi 0, vi 4, .val .null, un]) (plainFor_of_name pn1) O0 (own_entry rfl) ?_
  intro p e s m below meth c T0 hy hml hret hlk hnm W0
  refine o_aloadN W0 1 (hb hy d3_0) rfl rfl rfl ?_
  refine o_initO W0 (w16 hw) (w17 hw) (w18 hw) (by rw [hml]; rfl) 4 (hb hy d3_1) rfl (by decide) 0 (by exact Nat.le_of_eq rfl) (by decide) ?_
  intro T1 W1
  refine o_iloadN W1 5 (hb hy d3_4) rfl rfl <| o_ifY W1 27 (hb hy d3_5) (XT.i0_ne_t (by decide)) (by decide) rfl ?_
  refine o_getS W1 (w48 hw) Via.refl (SgCS.ext W1.ox) 30 (hb hy d3_27) rfl ?_
  intro T2 W2
  refine o_ifN W2 33 (hb hy d3_30) (XT.i0_eq_f NgCS) rfl <| o_aloadN W2 34 (hb hy d3_33) rfl rfl rfl <| o_iloadN W2 35 (hb hy d3_34) rfl rfl <| o_iloadN W2 36 (hb hy d3_35) rfl rfl ?_
  refine o_staticC W2 (w71 hw) (w72 hw) (w73 hw) (w74 hw) (by decide) (rm197 l hw a2 z0 x1 x2 x3 x4 h0 W2.old z1 hu3 hc4 hu5 hc6 hu7 hc8 z2 z3 z4) 0 2 12 (by decide) (by rw [hml]; rfl) (lenOf pd6 rfl) [] rfl rfl 39 (hb hy d3_36) rfl rfl rfl all0 tri ?_
  intro v9 T9 h9 lo9 W9 K9 q9
  obtain ⟨r1_9, r2_9, P9_0, P9_1, rfl⟩ := q9.2.2
  show Gl _ _ _ _ _ _ _ _ [(.ref r1_9)]
  refine o_astore W9 (L' := #[vr a1, vr a2, vi 0, vi 4, .val .null, vr r1_9]) 41 (hb hy d3_39) rfl rfl rfl <| o_aloadN W9 42 (hb hy d3_41) rfl rfl rfl <| o_aload W9 44 (hb hy d3_42) rfl rfl rfl <| o_iloadN W9 45 (hb hy d3_44) rfl rfl ?_
  refine o_staticC W9 (w78 hw) (w79 hw) (w73 hw) (w80 hw) (by decide) (rm176 l hw r1_9 r2_9 x1 x2 x3 x4 h9 W9.old P9_1) 1 2 12 (by decide) (by rw [hml]; rfl) (lenOf pd7 rfl) [(.ref a1)] rfl rfl 48 (hb hy d3_45) rfl rfl rfl all0 tri ?_
  intro v10 T10 h10 lo10 W10 K10 q10
  obtain rfl := q10.2.2
  show Gl _ _ _ _ _ _ _ _ [(.int 1), (.ref a1)]
  have c11 := ((z5.keep K9).keep K10)
  have c12 := ((z6.keep K9 nin0).keep K10 nin0)
  refine o_putF W10 (w26 hw) Via.refl c12 c11 (Or.inr ⟨(w22 hw), rfl, hnm⟩) (w7 hw) (ty := .byte) (v' := (.int 1)) (by decide) rfl (by decide) z7 m0 tri 51 (hb hy d3_48) rfl ?_
  intro T13 h13 lo13 W13 R13
  have F13 := c12.same R13
  refine o_aloadN W13 52 (hb hy d3_51) rfl rfl rfl <| o_aload W13 54 (hb hy d3_52) rfl rfl rfl ?_
  have c14 := (c11.wr R13)
  have c15 := (((z8.keep K9 nin0).keep K10 nin0).other R13 (Or.inr (slot_ne (Or.inr (w21 hw)) (Or.inr (w22 hw)) (by decide) (t := (.array .byte)) (t' := .byte) (by decide) (by decide))))
  refine o_putF W13 (w25 hw) Via.refl c15 c14 (Or.inr ⟨(w21 hw), rfl, hnm⟩) (w7 hw) (ty := (.array .byte)) (v' := (.ref r1_9)) (by decide) rfl rfl z7 m0 tri 57 (hb hy d3_54) rfl ?_
  intro T16 h16 lo16 W16 R16
  have F16 := c15.same R16
  have c17 := (F13.other R16 (Or.inr (slot_ne (Or.inr (w22 hw)) (Or.inr (w21 hw)) (by decide) (t := .byte) (t' := (.array .byte)) (by decide) (by decide))))
  have c18 := (c14.wr R16)
  have c19 := (((P9_1.keep K10 nin0).other R13 (own_ne' z5.lt P9_0)).other R16 (own_ne' z5.lt P9_0))
  exact o_ret0 W16 hlk hret (hb hy d3_57) (by decide) (by decide) ⟨r1_9, r2_9, (Nat.le_trans W2.keep.1 P9_0), c17, F16, c19, rfl⟩
theorem rm199 (l : Launch) {Z a0} (hw : HW Z a0) (a1 a2 : Addr) (z0 : ClassId) (x1 x2 x3 x4 : Int32) (z1 : ClassId) (h0 : Heap) (O0 : Old Z Z.heap.size h0) (z2 : Arv Z h0 a1 z0 .char 4 [(.int x1), (.int x2), (.int x3), (.int x4)] iZ) (hu1 : own_c x1) (hc2 : ¬ ((255 : Int32) < x1)) (z3 : Arv Z h0 a2 z1 .byte 4 [iZ, iZ, iZ, iZ] iZ) (z4 : Z.heap.size ≤ a2) (z5 : a1 ≠ a2) (hu5 : own_c x2) (hc6 : (255 : Int32) < x2) :
    CtrN l Z mn8 jdk_52_method_21_code 7 (some .int) [] (⟨0, 0, 0, 0⟩ : Room) #[(.ref a1), iZ, (.ref a2), iZ, (.int 4)] h0 [a2] (fun v h => Arv Z h a2 z1 .byte 4 [(.int (bB x1)), iZ, iZ, iZ] iZ ∧ v = some (.int 1)) := by
  refine CtrN.intro (L0 := #[vr a1, vi 0, vr a2, vi 0, vi 4, un, un]) (plainFor_of_name pn3) O0 (own_entry rfl) ?_
  intro p e s m below meth c T0 hy hml hret hlk hnm W0
  refine o_iconst W0 (v := 0) 1 (hb hy d15_0) rfl rfl <| o_istore W0 (L' := #[vr a1, vi 0, vr a2, vi 0, vi 4, vi 0, un]) 3 (hb hy d15_1) rfl rfl <| o_iload W0 5 (hb hy d15_3) rfl rfl <| o_iload W0 7 (hb hy d15_5) rfl rfl <| o_icmpN W0 10 (hb hy d15_7) (XT.ii_ge_f (by decide)) rfl <| o_aloadN W0 11 (hb hy d15_10) rfl rfl rfl ?_
  refine o_iloadN W0 12 (hb hy d15_11) rfl rfl <| o_caload W0 z2 (x := x1) (i := 0) (by decide) (by decide) (by decide) rfl 13 (hb hy d15_12) rfl <| o_istore W0 (L' := #[vr a1, vi 0, vr a2, vi 0, vi 4, vi 0, vi x1]) 15 (hb hy d15_13) rfl rfl <| o_iload W0 17 (hb hy d15_15) rfl rfl <| o_sipush W0 (v := 255) 20 (hb hy d15_17) (by decide) rfl <| o_icmpY W0 26 (hb hy d15_20) (XT.ii_le_t (own_cb hu1 hc2).2) (by decide) rfl ?_
  refine o_aloadN W0 27 (hb hy d15_26) rfl rfl rfl <| o_iloadN W0 28 (hb hy d15_27) rfl rfl <| o_iload W0 30 (hb hy d15_28) rfl rfl <| o_i2b W0 (v := (bB x1)) 31 (hb hy d15_30) rfl rfl ?_
  refine o_stB W0 z3 (i := 0) (x' := (bB x1)) (by decide) (by decide) (by decide) (Nat.lt_of_sub_eq_succ rfl) (own_b8 _) (vs' := [(.int (bB x1)), iZ, iZ, iZ]) rfl z4 m0 tri 32 (hb hy d15_31) rfl ?_
  intro T3 h3 lo3 W3 R3 V3
  refine o_iinc W3 (v := 1) (L' := #[vr a1, vi 1, vr a2, vi 0, vi 4, vi 0, vi x1]) 35 (hb hy d15_32) rfl (by decide) rfl rfl <| o_iinc W3 (v := 1) (L' := #[vr a1, vi 1, vr a2, vi 1, vi 4, vi 0, vi x1]) 38 (hb hy d15_35) rfl (by decide) rfl rfl <| o_iinc W3 (v := 1) (L' := #[vr a1, vi 1, vr a2, vi 1, vi 4, vi 1, vi x1]) 41 (hb hy d15_38) rfl (by decide) rfl rfl <| o_goto W3 3 (hb hy d15_41) (by decide) rfl <| o_iload W3 5 (hb hy d15_3) rfl rfl <| o_iload W3 7 (hb hy d15_5) rfl rfl ?_
  refine o_icmpN W3 10 (hb hy d15_7) (XT.ii_ge_f (by decide)) rfl <| o_aloadN W3 11 (hb hy d15_10) rfl rfl rfl <| o_iloadN W3 12 (hb hy d15_11) rfl rfl ?_
  have c4 := (z2.other R3 z5)
  refine o_caload W3 c4 (x := x2) (i := 1) (by decide) (by decide) (by decide) rfl 13 (hb hy d15_12) rfl <| o_istore W3 (L' := #[vr a1, vi 1, vr a2, vi 1, vi 4, vi 1, vi x2]) 15 (hb hy d15_13) rfl rfl <| o_iload W3 17 (hb hy d15_15) rfl rfl <| o_sipush W3 (v := 255) 20 (hb hy d15_17) (by decide) rfl <| o_icmpN W3 23 (hb hy d15_20) (XT.ii_le_f hc6) rfl <| o_iload W3 25 (hb hy d15_23) rfl rfl ?_
  exact o_retI W3 hlk hret (hb hy d15_25) (by decide) (by decide) ⟨V3, rfl⟩
theorem rm200 (l : Launch) {Z a0} (hw : HW Z a0) (a1 : Addr) (z0 : ClassId) (x1 x2 x3 x4 : Int32) (h0 : Heap) (O0 : Old Z Z.heap.size h0) (z1 : Arv Z h0 a1 z0 .char 4 [(.int x1), (.int x2), (.int x3), (.int x4)] iZ) (hu3 : own_c x1) (hc4 : ¬ ((255 : Int32) < x1)) (hu5 : own_c x2) (hc6 : (255 : Int32) < x2) (z2 : Sta Z Z.heap s1 s5 "Z" (.int 1)) (z3 : Sta Z Z.heap s1 s6 "I" iZ) (z4 : Sta Z Z.heap s1 s7 "I" (.int 8)) :
    CtrN l Z mn9 jdk_52_method_16_code 6 (some (.array .byte)) [] (⟨3, 2, 12, 40⟩ : Room) #[(.ref a1), iZ, (.int 4)] h0 [] (fun v h => ∃ r1 : Addr, ∃ r2 : ClassId, h0.size ≤ r1 ∧ Arv Z h r1 r2 .byte 8 [(.int (bH x1)), (.int (bL x1)), (.int (bH x2)), (.int (bL x2)), (.int (bH x3)), (.int (bL x3)), (.int (bH x4)), (.int (bL x4))] iZ ∧ v = some (.ref r1)) := by
  refine CtrN.intro (L0 := #[vr a1, vi 0, vi 4, un, un, un]) (plainFor_of_name pn3) O0 (own_entry rfl) ?_
  intro p e s m below meth c T0 hy hml hret hlk hnm W0
  refine o_iloadN W0 1 (hb hy d14_0) rfl rfl ?_
  refine o_newP W0 (aty := .byte) (w20 hw) tri (by decide) (cap := 4) (by decide) (by decide) 3 (hb hy d14_1) rfl (cells' := 1) (slots' := 4) rfl rfl (by decide) (by decide) (vs := [iZ, iZ, iZ, iZ]) (dv := iZ) rfl rfl ?_
  intro b1 T1 h1 k1 W1 E1 ge1 gz1 gb1 V1
  refine o_astoreN W1 (L' := #[vr a1, vi 0, vi 4, vr b1, un, un]) 4 (hb hy d14_3) rfl rfl rfl <| o_aloadN W1 5 (hb hy d14_4) rfl rfl rfl <| o_iloadN W1 6 (hb hy d14_5) rfl rfl <| o_aloadN W1 7 (hb hy d14_6) rfl rfl rfl <| o_iconst W1 (v := 0) 8 (hb hy d14_7) rfl rfl <| o_iloadN W1 9 (hb hy d14_8) rfl rfl ?_
  have c2 := (z1.ext E1)
  refine o_staticC W1 (w75 hw) (w76 hw) (w73 hw) (w77 hw) (by decide) (rm199 l hw a1 b1 z0 x1 x2 x3 x4 k1 h1 W1.old c2 hu3 hc4 V1 gz1 (own_ne z1.lt ge1) hu5 hc6) 0 1 4 (by decide) (by rw [hml]; rfl) (lenOf pd5 rfl) [] rfl rfl 12 (hb hy d14_9) rfl rfl rfl (allS ⟨gz1, (Or.inr gb1)⟩ all0) tri ?_
  intro v7 T7 h7 lo7 W7 K7 q7
  obtain ⟨P7_0, rfl⟩ := q7.2.2
  show Gl _ _ _ _ _ _ _ _ [(.int 1)]
  refine o_istore W7 (L' := #[vr a1, vi 0, vi 4, vr b1, vi 1, un]) 14 (hb hy d14_12) rfl rfl <| o_iload W7 16 (hb hy d14_14) rfl rfl <| o_iloadN W7 17 (hb hy d14_16) rfl rfl <| o_icmpN W7 20 (hb hy d14_17) (XT.ii_eq_f (by decide)) rfl <| o_aloadN W7 21 (hb hy d14_20) rfl rfl rfl <| o_iloadN W7 22 (hb hy d14_21) rfl rfl ?_
  refine o_iloadN W7 23 (hb hy d14_22) rfl rfl ?_
  have c8 := (c2.keep K7 (ninS (own_ne z1.lt ge1) nin0))
  refine o_staticC W7 (w84 hw) (w85 hw) (w73 hw) (w86 hw) (by decide) (rm173 l hw a1 z0 x1 x2 x3 x4 h7 W7.old c8 z2 z3 z4) 0 2 12 (by decide) (by rw [hml]; rfl) (lenOf pd6 rfl) [] rfl rfl 26 (hb hy d14_23) rfl rfl rfl all0 tri ?_
  intro v9 T9 h9 lo9 W9 K9 q9
  obtain ⟨r1_9, r2_9, P9_0, P9_1, rfl⟩ := q9.2.2
  show Gl _ _ _ _ _ _ _ _ [(.ref r1_9)]
  refine o_astore W9 (L' := #[vr a1, vi 0, vi 4, vr b1, vi 1, vr r1_9]) 28 (hb hy d14_26) rfl rfl rfl <| o_aload W9 30 (hb hy d14_28) rfl rfl rfl <| o_iload W9 32 (hb hy d14_30) rfl rfl ?_
  refine o_staticC W9 (w100 hw) (w101 hw) (w73 hw) (w102 hw) (by decide) (rm186 l hw r1_9 r2_9 x1 x2 x3 x4 h9 W9.old z2 P9_1 z3 z4 hu5) 0 2 12 (by decide) (by rw [hml]; rfl) (lenOf pd11 rfl) [] rfl rfl 35 (hb hy d14_32) rfl rfl rfl all0 tri ?_
  intro v10 T10 h10 lo10 W10 K10 q10
  obtain rfl := q10.2.2
  show Gl _ _ _ _ _ _ _ _ [(.int x2)]
  refine o_sipush W10 (v := 255) 38 (hb hy d14_35) (by decide) rfl <| o_icmpY W10 54 (hb hy d14_38) (XT.ii_gt_t hc6) (by decide) rfl <| o_aload W10 56 (hb hy d14_54) rfl rfl rfl ?_
  have c11 := (P9_1.keep K10 nin0)
  exact o_retA W10 hlk (v := (.ref r1_9)) hret rfl rfl (hb hy d14_56) (by decide) (by decide) ⟨r1_9, r2_9, (Nat.le_trans W7.keep.1 P9_0), c11, rfl⟩
theorem rm201 (l : Launch) {Z a0} (hw : HW Z a0) (gCS : Int32) (a1 a2 : Addr) (z0 : ClassId) (x1 x2 x3 x4 : Int32) (h0 : Heap) (O0 : Old Z Z.heap.size h0) (SgCS : Sta Z Z.heap s0 s8 "Z" (.int gCS)) (NgCS : ¬ (gCS = (0 : Int32))) (z1 : Arv Z h0 a2 z0 .char 4 [(.int x1), (.int x2), (.int x3), (.int x4)] iZ) (hu3 : own_c x1) (hc4 : ¬ ((255 : Int32) < x1)) (hu5 : own_c x2) (hc6 : (255 : Int32) < x2) (z2 : Sta Z Z.heap s1 s5 "Z" (.int 1)) (z3 : Sta Z Z.heap s1 s6 "I" iZ) (z4 : Sta Z Z.heap s1 s7 "I" (.int 8)) (z5 : Exa Z h0 a1 s0) (z6 : Fld Z h0 a1 s0 "coder" "B" iZ) (z7 : Z.heap.size ≤ a1) (z8 : Fld Z h0 a1 s0 "value" "[B" .null) :
    CtrN l Z mn5 jdk_42_method_149_code 6 none [] (⟨4, 2, 12, 57⟩ : Room) #[(.ref a1), (.ref a2), iZ, (.int 4), .null] h0 [a1] (fun v h => ∃ r1 : Addr, ∃ r2 : ClassId, h0.size ≤ r1 ∧ Fld Z h a1 s0 "coder" "B" (.int 1) ∧ Fld Z h a1 s0 "value" "[B" (.ref r1) ∧ Arv Z h r1 r2 .byte 8 [(.int (bH x1)), (.int (bL x1)), (.int (bH x2)), (.int (bL x2)), (.int (bH x3)), (.int (bL x3)), (.int (bH x4)), (.int (bL x4))] iZ ∧ v = none) := by
  refine CtrN.intro (L0 := #[vr a1, vr a2, vi 0, vi 4, .val .null, un]) (plainFor_of_name pn1) O0 (own_entry rfl) ?_
  intro p e s m below meth c T0 hy hml hret hlk hnm W0
  refine o_aloadN W0 1 (hb hy d3_0) rfl rfl rfl ?_
  refine o_initO W0 (w16 hw) (w17 hw) (w18 hw) (by rw [hml]; rfl) 4 (hb hy d3_1) rfl (by decide) 0 (by exact Nat.le_of_eq rfl) (by decide) ?_
  intro T1 W1
  refine o_iloadN W1 5 (hb hy d3_4) rfl rfl <| o_ifY W1 27 (hb hy d3_5) (XT.i0_ne_t (by decide)) (by decide) rfl ?_
  refine o_getS W1 (w48 hw) Via.refl (SgCS.ext W1.ox) 30 (hb hy d3_27) rfl ?_
  intro T2 W2
  refine o_ifN W2 33 (hb hy d3_30) (XT.i0_eq_f NgCS) rfl <| o_aloadN W2 34 (hb hy d3_33) rfl rfl rfl <| o_iloadN W2 35 (hb hy d3_34) rfl rfl <| o_iloadN W2 36 (hb hy d3_35) rfl rfl ?_
  refine o_staticC W2 (w71 hw) (w72 hw) (w73 hw) (w74 hw) (by decide) (rm200 l hw a2 z0 x1 x2 x3 x4 h0 W2.old z1 hu3 hc4 hu5 hc6 z2 z3 z4) 0 2 12 (by decide) (by rw [hml]; rfl) (lenOf pd6 rfl) [] rfl rfl 39 (hb hy d3_36) rfl rfl rfl all0 tri ?_
  intro v7 T7 h7 lo7 W7 K7 q7
  obtain ⟨r1_7, r2_7, P7_0, P7_1, rfl⟩ := q7.2.2
  show Gl _ _ _ _ _ _ _ _ [(.ref r1_7)]
  refine o_astore W7 (L' := #[vr a1, vr a2, vi 0, vi 4, .val .null, vr r1_7]) 41 (hb hy d3_39) rfl rfl rfl <| o_aloadN W7 42 (hb hy d3_41) rfl rfl rfl <| o_aload W7 44 (hb hy d3_42) rfl rfl rfl <| o_iloadN W7 45 (hb hy d3_44) rfl rfl ?_
  refine o_staticC W7 (w78 hw) (w79 hw) (w73 hw) (w80 hw) (by decide) (rm176 l hw r1_7 r2_7 x1 x2 x3 x4 h7 W7.old P7_1) 1 2 12 (by decide) (by rw [hml]; rfl) (lenOf pd7 rfl) [(.ref a1)] rfl rfl 48 (hb hy d3_45) rfl rfl rfl all0 tri ?_
  intro v8 T8 h8 lo8 W8 K8 q8
  obtain rfl := q8.2.2
  show Gl _ _ _ _ _ _ _ _ [(.int 1), (.ref a1)]
  have c9 := ((z5.keep K7).keep K8)
  have c10 := ((z6.keep K7 nin0).keep K8 nin0)
  refine o_putF W8 (w26 hw) Via.refl c10 c9 (Or.inr ⟨(w22 hw), rfl, hnm⟩) (w7 hw) (ty := .byte) (v' := (.int 1)) (by decide) rfl (by decide) z7 m0 tri 51 (hb hy d3_48) rfl ?_
  intro T11 h11 lo11 W11 R11
  have F11 := c10.same R11
  refine o_aloadN W11 52 (hb hy d3_51) rfl rfl rfl <| o_aload W11 54 (hb hy d3_52) rfl rfl rfl ?_
  have c12 := (c9.wr R11)
  have c13 := (((z8.keep K7 nin0).keep K8 nin0).other R11 (Or.inr (slot_ne (Or.inr (w21 hw)) (Or.inr (w22 hw)) (by decide) (t := (.array .byte)) (t' := .byte) (by decide) (by decide))))
  refine o_putF W11 (w25 hw) Via.refl c13 c12 (Or.inr ⟨(w21 hw), rfl, hnm⟩) (w7 hw) (ty := (.array .byte)) (v' := (.ref r1_7)) (by decide) rfl rfl z7 m0 tri 57 (hb hy d3_54) rfl ?_
  intro T14 h14 lo14 W14 R14
  have F14 := c13.same R14
  have c15 := (F11.other R14 (Or.inr (slot_ne (Or.inr (w22 hw)) (Or.inr (w21 hw)) (by decide) (t := .byte) (t' := (.array .byte)) (by decide) (by decide))))
  have c16 := (c12.wr R14)
  have c17 := (((P7_1.keep K8 nin0).other R11 (own_ne' z5.lt P7_0)).other R14 (own_ne' z5.lt P7_0))
  exact o_ret0 W14 hlk hret (hb hy d3_57) (by decide) (by decide) ⟨r1_7, r2_7, (Nat.le_trans W2.keep.1 P7_0), c15, F14, c17, rfl⟩
theorem rm202 (l : Launch) {Z a0} (hw : HW Z a0) (a1 a2 : Addr) (z0 : ClassId) (x1 x2 x3 x4 : Int32) (h0 : Heap) (O0 : Old Z Z.heap.size h0) (z1 : Arv Z h0 a1 z0 .char 4 [(.int x1), (.int x2), (.int x3), (.int x4)] iZ) (hu1 : own_c x1) (hc2 : (255 : Int32) < x1) :
    CtrN l Z mn8 jdk_52_method_21_code 7 (some .int) [] (⟨0, 0, 0, 0⟩ : Room) #[(.ref a1), iZ, (.ref a2), iZ, (.int 4)] h0 [] (fun v h => v = some iZ) := by
  refine CtrN.intro (L0 := #[vr a1, vi 0, vr a2, vi 0, vi 4, un, un]) (plainFor_of_name pn3) O0 (own_entry rfl) ?_
  intro p e s m below meth c T0 hy hml hret hlk hnm W0
  refine o_iconst W0 (v := 0) 1 (hb hy d15_0) rfl rfl <| o_istore W0 (L' := #[vr a1, vi 0, vr a2, vi 0, vi 4, vi 0, un]) 3 (hb hy d15_1) rfl rfl <| o_iload W0 5 (hb hy d15_3) rfl rfl <| o_iload W0 7 (hb hy d15_5) rfl rfl <| o_icmpN W0 10 (hb hy d15_7) (XT.ii_ge_f (by decide)) rfl <| o_aloadN W0 11 (hb hy d15_10) rfl rfl rfl ?_
  refine o_iloadN W0 12 (hb hy d15_11) rfl rfl <| o_caload W0 z1 (x := x1) (i := 0) (by decide) (by decide) (by decide) rfl 13 (hb hy d15_12) rfl <| o_istore W0 (L' := #[vr a1, vi 0, vr a2, vi 0, vi 4, vi 0, vi x1]) 15 (hb hy d15_13) rfl rfl <| o_iload W0 17 (hb hy d15_15) rfl rfl <| o_sipush W0 (v := 255) 20 (hb hy d15_17) (by decide) rfl <| o_icmpN W0 23 (hb hy d15_20) (XT.ii_le_f hc2) rfl ?_
  refine o_iload W0 25 (hb hy d15_23) rfl rfl ?_
  exact o_retI W0 hlk hret (hb hy d15_25) (by decide) (by decide) rfl
theorem rm203 (l : Launch) {Z a0} (hw : HW Z a0) (a1 : Addr) (z0 : ClassId) (x1 x2 x3 x4 : Int32) (h0 : Heap) (O0 : Old Z Z.heap.size h0) (z1 : Arv Z h0 a1 z0 .char 4 [(.int x1), (.int x2), (.int x3), (.int x4)] iZ) (hu3 : own_c x1) (hc4 : (255 : Int32) < x1) (z2 : Sta Z Z.heap s1 s5 "Z" (.int 1)) (z3 : Sta Z Z.heap s1 s6 "I" iZ) (z4 : Sta Z Z.heap s1 s7 "I" (.int 8)) :
    CtrN l Z mn9 jdk_52_method_16_code 6 (some (.array .byte)) [] (⟨3, 2, 12, 40⟩ : Room) #[(.ref a1), iZ, (.int 4)] h0 [] (fun v h => ∃ r1 : Addr, ∃ r2 : ClassId, h0.size ≤ r1 ∧ Arv Z h r1 r2 .byte 8 [(.int (bH x1)), (.int (bL x1)), (.int (bH x2)), (.int (bL x2)), (.int (bH x3)), (.int (bL x3)), (.int (bH x4)), (.int (bL x4))] iZ ∧ v = some (.ref r1)) := by
  refine CtrN.intro (L0 := #[vr a1, vi 0, vi 4, un, un, un]) (plainFor_of_name pn3) O0 (own_entry rfl) ?_
  intro p e s m below meth c T0 hy hml hret hlk hnm W0
  refine o_iloadN W0 1 (hb hy d14_0) rfl rfl ?_
  refine o_newP W0 (aty := .byte) (w20 hw) tri (by decide) (cap := 4) (by decide) (by decide) 3 (hb hy d14_1) rfl (cells' := 1) (slots' := 4) rfl rfl (by decide) (by decide) (vs := [iZ, iZ, iZ, iZ]) (dv := iZ) rfl rfl ?_
  intro b1 T1 h1 k1 W1 E1 ge1 gz1 gb1 V1
  refine o_astoreN W1 (L' := #[vr a1, vi 0, vi 4, vr b1, un, un]) 4 (hb hy d14_3) rfl rfl rfl <| o_aloadN W1 5 (hb hy d14_4) rfl rfl rfl <| o_iloadN W1 6 (hb hy d14_5) rfl rfl <| o_aloadN W1 7 (hb hy d14_6) rfl rfl rfl <| o_iconst W1 (v := 0) 8 (hb hy d14_7) rfl rfl <| o_iloadN W1 9 (hb hy d14_8) rfl rfl ?_
  have c2 := (z1.ext E1)
  refine o_staticC W1 (w75 hw) (w76 hw) (w73 hw) (w77 hw) (by decide) (rm202 l hw a1 b1 z0 x1 x2 x3 x4 h1 W1.old c2 hu3 hc4) 0 1 4 (by decide) (by rw [hml]; rfl) (lenOf pd5 rfl) [] rfl rfl 12 (hb hy d14_9) rfl rfl rfl all0 tri ?_
  intro v5 T5 h5 lo5 W5 K5 q5
  obtain rfl := q5.2.2
  show Gl _ _ _ _ _ _ _ _ [iZ]
  refine o_istore W5 (L' := #[vr a1, vi 0, vi 4, vr b1, vi 0, un]) 14 (hb hy d14_12) rfl rfl <| o_iload W5 16 (hb hy d14_14) rfl rfl <| o_iloadN W5 17 (hb hy d14_16) rfl rfl <| o_icmpN W5 20 (hb hy d14_17) (XT.ii_eq_f (by decide)) rfl <| o_aloadN W5 21 (hb hy d14_20) rfl rfl rfl <| o_iloadN W5 22 (hb hy d14_21) rfl rfl ?_
  refine o_iloadN W5 23 (hb hy d14_22) rfl rfl ?_
  have c6 := (c2.keep K5 nin0)
  refine o_staticC W5 (w84 hw) (w85 hw) (w73 hw) (w86 hw) (by decide) (rm173 l hw a1 z0 x1 x2 x3 x4 h5 W5.old c6 z2 z3 z4) 0 2 12 (by decide) (by rw [hml]; rfl) (lenOf pd6 rfl) [] rfl rfl 26 (hb hy d14_23) rfl rfl rfl all0 tri ?_
  intro v7 T7 h7 lo7 W7 K7 q7
  obtain ⟨r1_7, r2_7, P7_0, P7_1, rfl⟩ := q7.2.2
  show Gl _ _ _ _ _ _ _ _ [(.ref r1_7)]
  refine o_astore W7 (L' := #[vr a1, vi 0, vi 4, vr b1, vi 0, vr r1_7]) 28 (hb hy d14_26) rfl rfl rfl <| o_aload W7 30 (hb hy d14_28) rfl rfl rfl <| o_iload W7 32 (hb hy d14_30) rfl rfl ?_
  refine o_staticC W7 (w100 hw) (w101 hw) (w73 hw) (w102 hw) (by decide) (rm182 l hw r1_7 r2_7 x1 x2 x3 x4 h7 W7.old z2 P7_1 z3 z4 hu3) 0 2 12 (by decide) (by rw [hml]; rfl) (lenOf pd11 rfl) [] rfl rfl 35 (hb hy d14_32) rfl rfl rfl all0 tri ?_
  intro v8 T8 h8 lo8 W8 K8 q8
  obtain rfl := q8.2.2
  show Gl _ _ _ _ _ _ _ _ [(.int x1)]
  refine o_sipush W8 (v := 255) 38 (hb hy d14_35) (by decide) rfl <| o_icmpY W8 54 (hb hy d14_38) (XT.ii_gt_t hc4) (by decide) rfl <| o_aload W8 56 (hb hy d14_54) rfl rfl rfl ?_
  have c9 := (P7_1.keep K8 nin0)
  exact o_retA W8 hlk (v := (.ref r1_7)) hret rfl rfl (hb hy d14_56) (by decide) (by decide) ⟨r1_7, r2_7, (Nat.le_trans W5.keep.1 P7_0), c9, rfl⟩
theorem rm204 (l : Launch) {Z a0} (hw : HW Z a0) (gCS : Int32) (a1 a2 : Addr) (z0 : ClassId) (x1 x2 x3 x4 : Int32) (h0 : Heap) (O0 : Old Z Z.heap.size h0) (SgCS : Sta Z Z.heap s0 s8 "Z" (.int gCS)) (NgCS : ¬ (gCS = (0 : Int32))) (z1 : Arv Z h0 a2 z0 .char 4 [(.int x1), (.int x2), (.int x3), (.int x4)] iZ) (hu3 : own_c x1) (hc4 : (255 : Int32) < x1) (z2 : Sta Z Z.heap s1 s5 "Z" (.int 1)) (z3 : Sta Z Z.heap s1 s6 "I" iZ) (z4 : Sta Z Z.heap s1 s7 "I" (.int 8)) (z5 : Exa Z h0 a1 s0) (z6 : Fld Z h0 a1 s0 "coder" "B" iZ) (z7 : Z.heap.size ≤ a1) (z8 : Fld Z h0 a1 s0 "value" "[B" .null) :
    CtrN l Z mn5 jdk_42_method_149_code 6 none [] (⟨4, 2, 12, 57⟩ : Room) #[(.ref a1), (.ref a2), iZ, (.int 4), .null] h0 [a1] (fun v h => ∃ r1 : Addr, ∃ r2 : ClassId, h0.size ≤ r1 ∧ Fld Z h a1 s0 "coder" "B" (.int 1) ∧ Fld Z h a1 s0 "value" "[B" (.ref r1) ∧ Arv Z h r1 r2 .byte 8 [(.int (bH x1)), (.int (bL x1)), (.int (bH x2)), (.int (bL x2)), (.int (bH x3)), (.int (bL x3)), (.int (bH x4)), (.int (bL x4))] iZ ∧ v = none) := by
  refine CtrN.intro (L0 := #[vr a1, vr a2, vi 0, vi 4, .val .null, un]) (plainFor_of_name pn1) O0 (own_entry rfl) ?_
  intro p e s m below meth c T0 hy hml hret hlk hnm W0
  refine o_aloadN W0 1 (hb hy d3_0) rfl rfl rfl ?_
  refine o_initO W0 (w16 hw) (w17 hw) (w18 hw) (by rw [hml]; rfl) 4 (hb hy d3_1) rfl (by decide) 0 (by exact Nat.le_of_eq rfl) (by decide) ?_
  intro T1 W1
  refine o_iloadN W1 5 (hb hy d3_4) rfl rfl <| o_ifY W1 27 (hb hy d3_5) (XT.i0_ne_t (by decide)) (by decide) rfl ?_
  refine o_getS W1 (w48 hw) Via.refl (SgCS.ext W1.ox) 30 (hb hy d3_27) rfl ?_
  intro T2 W2
  refine o_ifN W2 33 (hb hy d3_30) (XT.i0_eq_f NgCS) rfl <| o_aloadN W2 34 (hb hy d3_33) rfl rfl rfl <| o_iloadN W2 35 (hb hy d3_34) rfl rfl <| o_iloadN W2 36 (hb hy d3_35) rfl rfl ?_
  refine o_staticC W2 (w71 hw) (w72 hw) (w73 hw) (w74 hw) (by decide) (rm203 l hw a2 z0 x1 x2 x3 x4 h0 W2.old z1 hu3 hc4 z2 z3 z4) 0 2 12 (by decide) (by rw [hml]; rfl) (lenOf pd6 rfl) [] rfl rfl 39 (hb hy d3_36) rfl rfl rfl all0 tri ?_
  intro v5 T5 h5 lo5 W5 K5 q5
  obtain ⟨r1_5, r2_5, P5_0, P5_1, rfl⟩ := q5.2.2
  show Gl _ _ _ _ _ _ _ _ [(.ref r1_5)]
  refine o_astore W5 (L' := #[vr a1, vr a2, vi 0, vi 4, .val .null, vr r1_5]) 41 (hb hy d3_39) rfl rfl rfl <| o_aloadN W5 42 (hb hy d3_41) rfl rfl rfl <| o_aload W5 44 (hb hy d3_42) rfl rfl rfl <| o_iloadN W5 45 (hb hy d3_44) rfl rfl ?_
  refine o_staticC W5 (w78 hw) (w79 hw) (w73 hw) (w80 hw) (by decide) (rm176 l hw r1_5 r2_5 x1 x2 x3 x4 h5 W5.old P5_1) 1 2 12 (by decide) (by rw [hml]; rfl) (lenOf pd7 rfl) [(.ref a1)] rfl rfl 48 (hb hy d3_45) rfl rfl rfl all0 tri ?_
  intro v6 T6 h6 lo6 W6 K6 q6
  obtain rfl := q6.2.2
  show Gl _ _ _ _ _ _ _ _ [(.int 1), (.ref a1)]
  have c7 := ((z5.keep K5).keep K6)
  have c8 := ((z6.keep K5 nin0).keep K6 nin0)
  refine o_putF W6 (w26 hw) Via.refl c8 c7 (Or.inr ⟨(w22 hw), rfl, hnm⟩) (w7 hw) (ty := .byte) (v' := (.int 1)) (by decide) rfl (by decide) z7 m0 tri 51 (hb hy d3_48) rfl ?_
  intro T9 h9 lo9 W9 R9
  have F9 := c8.same R9
  refine o_aloadN W9 52 (hb hy d3_51) rfl rfl rfl <| o_aload W9 54 (hb hy d3_52) rfl rfl rfl ?_
  have c10 := (c7.wr R9)
  have c11 := (((z8.keep K5 nin0).keep K6 nin0).other R9 (Or.inr (slot_ne (Or.inr (w21 hw)) (Or.inr (w22 hw)) (by decide) (t := (.array .byte)) (t' := .byte) (by decide) (by decide))))
  refine o_putF W9 (w25 hw) Via.refl c11 c10 (Or.inr ⟨(w21 hw), rfl, hnm⟩) (w7 hw) (ty := (.array .byte)) (v' := (.ref r1_5)) (by decide) rfl rfl z7 m0 tri 57 (hb hy d3_54) rfl ?_
  intro T12 h12 lo12 W12 R12
  have F12 := c11.same R12
  have c13 := (F9.other R12 (Or.inr (slot_ne (Or.inr (w22 hw)) (Or.inr (w21 hw)) (by decide) (t := .byte) (t' := (.array .byte)) (by decide) (by decide))))
  have c14 := (c10.wr R12)
  have c15 := (((P5_1.keep K6 nin0).other R9 (own_ne' z5.lt P5_0)).other R12 (own_ne' z5.lt P5_0))
  exact o_ret0 W12 hlk hret (hb hy d3_57) (by decide) (by decide) ⟨r1_5, r2_5, (Nat.le_trans W2.keep.1 P5_0), c13, F12, c15, rfl⟩
theorem rm205 (l : Launch) {Z a0} (hw : HW Z a0) (gCS : Int32) (gF : Value) (a1 a2 : Addr) (z0 : ClassId) (x1 x2 x3 x4 : Int32) (h0 : Heap) (O0 : Old Z Z.heap.size h0) (z1 : Arv Z h0 a2 z0 .char 4 [(.int x1), (.int x2), (.int x3), (.int x4)] iZ) (SgCS : Sta Z Z.heap s0 s8 "Z" (.int gCS)) (NgCS : ¬ (gCS = (0 : Int32))) (hu1 : own_c x1) (hu3 : own_c x2) (hu5 : own_c x3) (hu7 : own_c x4) (z2 : Exa Z h0 a1 s0) (z3 : Fld Z h0 a1 s0 "coder" "B" iZ) (z4 : Fld Z h0 a1 s0 "value" "[B" .null) (z5 : Z.heap.size ≤ a1) (SgF : Sta Z Z.heap s2 s3 s4 gF) (NgF : gF.isRef = true) (z6 : Sta Z Z.heap s1 s5 "Z" (.int 1)) (z7 : Sta Z Z.heap s1 s6 "I" iZ) (z8 : Sta Z Z.heap s1 s7 "I" (.int 8)) :
    CtrN l Z mn6 jdk_42_method_3_code 2 none [] (⟨5, 2, 12, 74⟩ : Room) #[(.ref a1), (.ref a2)] h0 [a1] (fun v h => Sv l Z h a1 (4 : Int32) [((0 : Int32), x1), ((1 : Int32), x2), ((2 : Int32), x3), ((3 : Int32), x4)] ∧ v = none) := by
  refine CtrN.intro (L0 := #[vr a1, vr a2]) (plainFor_of_name pn1) O0 (own_entry rfl) ?_
  intro p e s m below meth c T0 hy hml hret hlk hnm W0
  refine o_aloadN W0 1 (hb hy d2_0) rfl rfl rfl <| o_aloadN W0 2 (hb hy d2_1) rfl rfl rfl <| o_iconst W0 (v := 0) 3 (hb hy d2_2) rfl rfl <| o_aloadN W0 4 (hb hy d2_3) rfl rfl rfl <| o_len W0 z1 5 (hb hy d2_4) rfl ?_
  refine o_aconstNull W0 6 (hb hy d2_5) rfl ?_
  rcases (Classical.em ((255 : Int32) < x1)).symm with hq2 | hq2
  · rcases (Classical.em ((255 : Int32) < x2)).symm with hq4 | hq4
    · rcases (Classical.em ((255 : Int32) < x3)).symm with hq6 | hq6
      · rcases (Classical.em ((255 : Int32) < x4)).symm with hq8 | hq8
        · refine o_specialC W0 rfl (w12 hw) (w13 hw) (w15 hw) (by decide) (w8 hw) (rm143 l hw gCS a1 a2 z0 x1 x2 x3 x4 h0 W0.old SgCS NgCS z1 hu1 hq2 hu3 hq4 hu5 hq6 hu7 hq8 z2 z3 z5 z4) 0 1 4 (by decide) (by rw [hml]; rfl) (lenOf pd1 rfl) [] rfl rfl 9 (hb hy d2_6) rfl rfl rfl (allS ⟨z5, m0⟩ all0) tri ?_
          intro v9 T9 h9 lo9 W9 K9 q9
          obtain ⟨r1_9, r2_9, P9_0, P9_1, P9_2, P9_3, rfl⟩ := q9.2.2
          show Gl _ _ _ _ _ _ _ _ []
          have sv10 : Sv l Z h9 a1 (4 : Int32) [((0 : Int32), x1), ((1 : Int32), x2), ((2 : Int32), x3), ((3 : Int32), x4)] := by
            intro h' O' K'
            have c11 := (P9_2.keep K' nin0)
            have c12 := (P9_3.keep K' nin0)
            have c13 := (P9_1.keep K' nin0)
            have c14 := ((z2.keep K9).keep K')
            exact ⟨(rm144 l hw a1 r1_9 r2_9 x1 x2 x3 x4 h' O' c11 c12), (rm145 l hw gCS a1 r1_9 r2_9 x1 x2 x3 x4 h' O' c11 c12 c14 SgCS NgCS c13), (al1 (rm150 l hw gCS gF a1 r1_9 r2_9 x1 x2 x3 x4 h' O' c14 SgCS NgCS c13 c11 c12 SgF NgF hu1 hq2) (al1 (rm155 l hw gCS gF a1 r1_9 r2_9 x1 x2 x3 x4 h' O' c14 SgCS NgCS c13 c11 c12 SgF NgF hu3 hq4) (al1 (rm160 l hw gCS gF a1 r1_9 r2_9 x1 x2 x3 x4 h' O' c14 SgCS NgCS c13 c11 c12 SgF NgF hu5 hq6) (al1 (rm165 l hw gCS gF a1 r1_9 r2_9 x1 x2 x3 x4 h' O' c14 SgCS NgCS c13 c11 c12 SgF NgF hu7 hq8) al0))))⟩
          exact o_ret0 W9 hlk hret (hb hy d2_9) (by decide) (by decide) ⟨sv10, rfl⟩
        · refine o_specialC W0 rfl (w12 hw) (w13 hw) (w15 hw) (by decide) (w8 hw) (rm177 l hw gCS a1 a2 z0 x1 x2 x3 x4 h0 W0.old SgCS NgCS z1 hu1 hq2 hu3 hq4 hu5 hq6 hu7 hq8 z6 z7 z8 z2 z3 z5 z4) 0 2 12 (by decide) (by rw [hml]; rfl) (lenOf pd1 rfl) [] rfl rfl 9 (hb hy d2_6) rfl rfl rfl (allS ⟨z5, m0⟩ all0) tri ?_
          intro v15 T15 h15 lo15 W15 K15 q15
          obtain ⟨r1_15, r2_15, P15_0, P15_1, P15_2, P15_3, rfl⟩ := q15.2.2
          show Gl _ _ _ _ _ _ _ _ []
          have sv16 : Sv l Z h15 a1 (4 : Int32) [((0 : Int32), x1), ((1 : Int32), x2), ((2 : Int32), x3), ((3 : Int32), x4)] := by
            intro h' O' K'
            have c17 := (P15_2.keep K' nin0)
            have c18 := (P15_3.keep K' nin0)
            have c19 := (P15_1.keep K' nin0)
            have c20 := ((z2.keep K15).keep K')
            exact ⟨(rm178 l hw a1 r1_15 r2_15 x1 x2 x3 x4 h' O' c17 c18), (rm179 l hw gCS a1 r1_15 r2_15 x1 x2 x3 x4 h' O' c17 c18 c20 SgCS NgCS c19), (al1 (rm184 l hw gCS gF a1 r1_15 r2_15 x1 x2 x3 x4 h' O' c20 SgCS NgCS c19 c17 c18 SgF NgF z6 z7 z8 hu1) (al1 (rm188 l hw gCS gF a1 r1_15 r2_15 x1 x2 x3 x4 h' O' c20 SgCS NgCS c19 c17 c18 SgF NgF z6 z7 z8 hu3) (al1 (rm192 l hw gCS gF a1 r1_15 r2_15 x1 x2 x3 x4 h' O' c20 SgCS NgCS c19 c17 c18 SgF NgF z6 z7 z8 hu5) (al1 (rm195 l hw gCS gF a1 r1_15 r2_15 x1 x2 x3 x4 h' O' c20 SgCS NgCS c19 c17 c18 SgF NgF z6 z7 z8 hu7) al0))))⟩
          exact o_ret0 W15 hlk hret (hb hy d2_9) (by decide) (by decide) ⟨sv16, rfl⟩
      · refine o_specialC W0 rfl (w12 hw) (w13 hw) (w15 hw) (by decide) (w8 hw) (rm198 l hw gCS a1 a2 z0 x1 x2 x3 x4 h0 W0.old SgCS NgCS z1 hu1 hq2 hu3 hq4 hu5 hq6 z6 z7 z8 z2 z3 z5 z4) 0 2 12 (by decide) (by rw [hml]; rfl) (lenOf pd1 rfl) [] rfl rfl 9 (hb hy d2_6) rfl rfl rfl (allS ⟨z5, m0⟩ all0) tri ?_
        intro v21 T21 h21 lo21 W21 K21 q21
        obtain ⟨r1_21, r2_21, P21_0, P21_1, P21_2, P21_3, rfl⟩ := q21.2.2
        show Gl _ _ _ _ _ _ _ _ []
        have sv22 : Sv l Z h21 a1 (4 : Int32) [((0 : Int32), x1), ((1 : Int32), x2), ((2 : Int32), x3), ((3 : Int32), x4)] := by
          intro h' O' K'
          have c23 := (P21_2.keep K' nin0)
          have c24 := (P21_3.keep K' nin0)
          have c25 := (P21_1.keep K' nin0)
          have c26 := ((z2.keep K21).keep K')
          exact ⟨(rm178 l hw a1 r1_21 r2_21 x1 x2 x3 x4 h' O' c23 c24), (rm179 l hw gCS a1 r1_21 r2_21 x1 x2 x3 x4 h' O' c23 c24 c26 SgCS NgCS c25), (al1 (rm184 l hw gCS gF a1 r1_21 r2_21 x1 x2 x3 x4 h' O' c26 SgCS NgCS c25 c23 c24 SgF NgF z6 z7 z8 hu1) (al1 (rm188 l hw gCS gF a1 r1_21 r2_21 x1 x2 x3 x4 h' O' c26 SgCS NgCS c25 c23 c24 SgF NgF z6 z7 z8 hu3) (al1 (rm192 l hw gCS gF a1 r1_21 r2_21 x1 x2 x3 x4 h' O' c26 SgCS NgCS c25 c23 c24 SgF NgF z6 z7 z8 hu5) (al1 (rm195 l hw gCS gF a1 r1_21 r2_21 x1 x2 x3 x4 h' O' c26 SgCS NgCS c25 c23 c24 SgF NgF z6 z7 z8 hu7) al0))))⟩
        exact o_ret0 W21 hlk hret (hb hy d2_9) (by decide) (by decide) ⟨sv22, rfl⟩
    · refine o_specialC W0 rfl (w12 hw) (w13 hw) (w15 hw) (by decide) (w8 hw) (rm201 l hw gCS a1 a2 z0 x1 x2 x3 x4 h0 W0.old SgCS NgCS z1 hu1 hq2 hu3 hq4 z6 z7 z8 z2 z3 z5 z4) 0 2 12 (by decide) (by rw [hml]; rfl) (lenOf pd1 rfl) [] rfl rfl 9 (hb hy d2_6) rfl rfl rfl (allS ⟨z5, m0⟩ all0) tri ?_
      intro v27 T27 h27 lo27 W27 K27 q27
      obtain ⟨r1_27, r2_27, P27_0, P27_1, P27_2, P27_3, rfl⟩ := q27.2.2
      show Gl _ _ _ _ _ _ _ _ []
      have sv28 : Sv l Z h27 a1 (4 : Int32) [((0 : Int32), x1), ((1 : Int32), x2), ((2 : Int32), x3), ((3 : Int32), x4)] := by
        intro h' O' K'
        have c29 := (P27_2.keep K' nin0)
        have c30 := (P27_3.keep K' nin0)
        have c31 := (P27_1.keep K' nin0)
        have c32 := ((z2.keep K27).keep K')
        exact ⟨(rm178 l hw a1 r1_27 r2_27 x1 x2 x3 x4 h' O' c29 c30), (rm179 l hw gCS a1 r1_27 r2_27 x1 x2 x3 x4 h' O' c29 c30 c32 SgCS NgCS c31), (al1 (rm184 l hw gCS gF a1 r1_27 r2_27 x1 x2 x3 x4 h' O' c32 SgCS NgCS c31 c29 c30 SgF NgF z6 z7 z8 hu1) (al1 (rm188 l hw gCS gF a1 r1_27 r2_27 x1 x2 x3 x4 h' O' c32 SgCS NgCS c31 c29 c30 SgF NgF z6 z7 z8 hu3) (al1 (rm192 l hw gCS gF a1 r1_27 r2_27 x1 x2 x3 x4 h' O' c32 SgCS NgCS c31 c29 c30 SgF NgF z6 z7 z8 hu5) (al1 (rm195 l hw gCS gF a1 r1_27 r2_27 x1 x2 x3 x4 h' O' c32 SgCS NgCS c31 c29 c30 SgF NgF z6 z7 z8 hu7) al0))))⟩
      exact o_ret0 W27 hlk hret (hb hy d2_9) (by decide) (by decide) ⟨sv28, rfl⟩
  · refine o_specialC W0 rfl (w12 hw) (w13 hw) (w15 hw) (by decide) (w8 hw) (rm204 l hw gCS a1 a2 z0 x1 x2 x3 x4 h0 W0.old SgCS NgCS z1 hu1 hq2 z6 z7 z8 z2 z3 z5 z4) 0 2 12 (by decide) (by rw [hml]; rfl) (lenOf pd1 rfl) [] rfl rfl 9 (hb hy d2_6) rfl rfl rfl (allS ⟨z5, m0⟩ all0) tri ?_
    intro v33 T33 h33 lo33 W33 K33 q33
    obtain ⟨r1_33, r2_33, P33_0, P33_1, P33_2, P33_3, rfl⟩ := q33.2.2
    show Gl _ _ _ _ _ _ _ _ []
    have sv34 : Sv l Z h33 a1 (4 : Int32) [((0 : Int32), x1), ((1 : Int32), x2), ((2 : Int32), x3), ((3 : Int32), x4)] := by
      intro h' O' K'
      have c35 := (P33_2.keep K' nin0)
      have c36 := (P33_3.keep K' nin0)
      have c37 := (P33_1.keep K' nin0)
      have c38 := ((z2.keep K33).keep K')
      exact ⟨(rm178 l hw a1 r1_33 r2_33 x1 x2 x3 x4 h' O' c35 c36), (rm179 l hw gCS a1 r1_33 r2_33 x1 x2 x3 x4 h' O' c35 c36 c38 SgCS NgCS c37), (al1 (rm184 l hw gCS gF a1 r1_33 r2_33 x1 x2 x3 x4 h' O' c38 SgCS NgCS c37 c35 c36 SgF NgF z6 z7 z8 hu1) (al1 (rm188 l hw gCS gF a1 r1_33 r2_33 x1 x2 x3 x4 h' O' c38 SgCS NgCS c37 c35 c36 SgF NgF z6 z7 z8 hu3) (al1 (rm192 l hw gCS gF a1 r1_33 r2_33 x1 x2 x3 x4 h' O' c38 SgCS NgCS c37 c35 c36 SgF NgF z6 z7 z8 hu5) (al1 (rm195 l hw gCS gF a1 r1_33 r2_33 x1 x2 x3 x4 h' O' c38 SgCS NgCS c37 c35 c36 SgF NgF z6 z7 z8 hu7) al0))))⟩
    exact o_ret0 W33 hlk hret (hb hy d2_9) (by decide) (by decide) ⟨sv34, rfl⟩
theorem rm206 (l : Launch) {Z a0} (hw : HW Z a0) (a1 : Addr) (x1 x2 x3 x4 : Int32) (h0 : Heap) (O0 : Old Z Z.heap.size h0) (z0 : Exa Z h0 a1 s0) (z1 : Sv l Z h0 a1 (4 : Int32) [((0 : Int32), x1), ((1 : Int32), x2), ((2 : Int32), x3), ((3 : Int32), x4)]) (hc11 : (own_okc x1) = (0 : Int32)) :
    CtrN l Z mn7 prog_6_method_2_code 4 (some .boolean) [] (⟨6, 0, 0, 83⟩ : Room) #[(.ref a1)] h0 [] (fun v h => v = some iZ) := by
  refine CtrN.intro (L0 := #[vr a1, un, un, un]) (plainFor_of_name pn2) O0 (own_entry rfl) ?_
  intro p e s m below meth c T0 hy hml hret hlk hnm W0
  refine o_aloadN W0 1 (hb hy d5_0) rfl rfl rfl ?_
  refine o_ifnullN W0 4 (hb hy d5_1) rfl ?_
  refine o_aloadN W0 5 (hb hy d5_4) rfl rfl rfl ?_
  refine o_virtualC W0 (w31 hw) (w32 hw) (o_nf W0 rfl (w34 hw)) (w34 hw) (w33 hw) (by decide) z0 (w35 hw) (w8 hw) (z1 _ W0.old (Keep.refl _ _)).1 0 0 0 (by decide) (by rw [hml]; rfl) (lenOf pd3 rfl) [] rfl rfl 8 (hb hy d5_5) rfl rfl rfl all0 tri ?_
  intro v1 T1 h1 lo1 W1 K1 q1
  obtain rfl := q1.2.2
  show Gl _ _ _ _ _ _ _ _ [iZ]
  refine o_ifN W1 11 (hb hy d5_8) (XT.i0_ne_f (by decide)) rfl <| o_aloadN W1 12 (hb hy d5_11) rfl rfl rfl ?_
  have c2 := (z1.keep K1)
  have c3 := (z0.keep K1)
  refine o_virtualC W1 (w38 hw) (w39 hw) (o_nf W1 rfl (w41 hw)) (w41 hw) (w40 hw) (by decide) c3 (w42 hw) (w8 hw) (c2 _ W1.old (Keep.refl _ _)).2.1 0 0 0 (by decide) (by rw [hml]; rfl) (lenOf pd17 rfl) [] rfl rfl 15 (hb hy d5_12) rfl rfl rfl all0 tri ?_
  intro v4 T4 h4 lo4 W4 K4 q4
  obtain rfl := q4.2.2
  show Gl _ _ _ _ _ _ _ _ [(.int 4)]
  refine o_sipush W4 (v := 128) 18 (hb hy d5_15) (by decide) rfl <| o_icmpY W4 23 (hb hy d5_18) (XT.ii_le_t (by decide)) (by decide) rfl <| o_iconst W4 (v := 1) 24 (hb hy d5_23) rfl rfl <| o_istoreN W4 (L' := #[vr a1, vi 1, un, un]) 25 (hb hy d5_24) rfl rfl <| o_iconst W4 (v := 0) 26 (hb hy d5_25) rfl rfl <| o_istoreN W4 (L' := #[vr a1, vi 1, vi 0, un]) 27 (hb hy d5_26) rfl rfl ?_
  refine o_iloadN W4 28 (hb hy d5_27) rfl rfl <| o_aloadN W4 29 (hb hy d5_28) rfl rfl rfl ?_
  have c5 := (c2.keep K4)
  have c6 := (c3.keep K4)
  refine o_virtualC W4 (w38 hw) (w39 hw) (o_nf W4 rfl (w41 hw)) (w41 hw) (w40 hw) (by decide) c6 (w42 hw) (w8 hw) (c5 _ W4.old (Keep.refl _ _)).2.1 1 0 0 (by decide) (by rw [hml]; rfl) (lenOf pd17 rfl) [iZ] rfl rfl 32 (hb hy d5_29) rfl rfl rfl all0 tri ?_
  intro v7 T7 h7 lo7 W7 K7 q7
  obtain rfl := q7.2.2
  show Gl _ _ _ _ _ _ _ _ [(.int 4), iZ]
  refine o_icmpN W7 35 (hb hy d5_32) (XT.ii_ge_f (by decide)) rfl <| o_iloadN W7 36 (hb hy d5_35) rfl rfl <| o_ifN W7 39 (hb hy d5_36) (XT.i0_eq_f (by decide)) rfl <| o_aloadN W7 40 (hb hy d5_39) rfl rfl rfl <| o_iloadN W7 41 (hb hy d5_40) rfl rfl ?_
  have c8 := (c5.keep K7)
  have c9 := (c6.keep K7)
  refine o_virtualC W7 (w49 hw) (w50 hw) (o_nf W7 rfl (w52 hw)) (w52 hw) (w51 hw) (by decide) c9 (w53 hw) (w8 hw) (al_h (c8 _ W7.old (Keep.refl _ _)).2.2) 0 0 0 (by decide) (by rw [hml]; rfl) (lenOf pd18 rfl) [] rfl rfl 44 (hb hy d5_41) rfl rfl rfl all0 tri ?_
  intro v10 T10 h10 lo10 W10 K10 q10
  obtain rfl := q10.2.2
  show Gl _ _ _ _ _ _ _ _ [(.int x1)]
  refine o_istoreN W10 (L' := #[vr a1, vi 1, vi 0, vi x1]) 45 (hb hy d5_44) rfl rfl ?_
  refine own_tst W10 hy ?_
  rw [hc11]
  refine o_istoreN W10 (L' := #[vr a1, vi 0, vi 0, vi x1]) 105 (hb hy d5_104) rfl rfl <| o_iinc W10 (v := 1) (L' := #[vr a1, vi 0, vi 1, vi x1]) 108 (hb hy d5_105) rfl (by decide) rfl rfl <| o_goto W10 27 (hb hy d5_108) (by decide) rfl <| o_iloadN W10 28 (hb hy d5_27) rfl rfl <| o_aloadN W10 29 (hb hy d5_28) rfl rfl rfl ?_
  have c12 := (c8.keep K10)
  have c13 := (c9.keep K10)
  refine o_virtualC W10 (w38 hw) (w39 hw) (o_nf W10 rfl (w41 hw)) (w41 hw) (w40 hw) (by decide) c13 (w42 hw) (w8 hw) (c12 _ W10.old (Keep.refl _ _)).2.1 1 0 0 (by decide) (by rw [hml]; rfl) (lenOf pd17 rfl) [(.int 1)] rfl rfl 32 (hb hy d5_29) rfl rfl rfl all0 tri ?_
  intro v14 T14 h14 lo14 W14 K14 q14
  obtain rfl := q14.2.2
  show Gl _ _ _ _ _ _ _ _ [(.int 4), (.int 1)]
  refine o_icmpN W14 35 (hb hy d5_32) (XT.ii_ge_f (by decide)) rfl <| o_iloadN W14 36 (hb hy d5_35) rfl rfl <| o_ifY W14 111 (hb hy d5_36) (XT.i0_eq_t (by decide)) (by decide) rfl <| o_iloadN W14 112 (hb hy d5_111) rfl rfl ?_
  exact o_retN W14 hlk (t := .boolean) hret (by simp) (z' := (0 : Int32)) (by decide) (hb hy d5_112) (by decide) (by decide) rfl
theorem rm207 (l : Launch) {Z a0} (hw : HW Z a0) (a1 : Addr) (x1 x2 x3 x4 : Int32) (h0 : Heap) (O0 : Old Z Z.heap.size h0) (z0 : Exa Z h0 a1 s0) (z1 : Sv l Z h0 a1 (4 : Int32) [((0 : Int32), x1), ((1 : Int32), x2), ((2 : Int32), x3), ((3 : Int32), x4)]) (hc11 : ¬ ((own_okc x1) = (0 : Int32))) (hc18 : (own_okc x2) = (0 : Int32)) :
    CtrN l Z mn7 prog_6_method_2_code 4 (some .boolean) [] (⟨6, 0, 0, 83⟩ : Room) #[(.ref a1)] h0 [] (fun v h => v = some iZ) := by
  refine CtrN.intro (L0 := #[vr a1, un, un, un]) (plainFor_of_name pn2) O0 (own_entry rfl) ?_
  intro p e s m below meth c T0 hy hml hret hlk hnm W0
  refine o_aloadN W0 1 (hb hy d5_0) rfl rfl rfl ?_
  refine o_ifnullN W0 4 (hb hy d5_1) rfl ?_
  refine o_aloadN W0 5 (hb hy d5_4) rfl rfl rfl ?_
  refine o_virtualC W0 (w31 hw) (w32 hw) (o_nf W0 rfl (w34 hw)) (w34 hw) (w33 hw) (by decide) z0 (w35 hw) (w8 hw) (z1 _ W0.old (Keep.refl _ _)).1 0 0 0 (by decide) (by rw [hml]; rfl) (lenOf pd3 rfl) [] rfl rfl 8 (hb hy d5_5) rfl rfl rfl all0 tri ?_
  intro v1 T1 h1 lo1 W1 K1 q1
  obtain rfl := q1.2.2
  show Gl _ _ _ _ _ _ _ _ [iZ]
  refine o_ifN W1 11 (hb hy d5_8) (XT.i0_ne_f (by decide)) rfl <| o_aloadN W1 12 (hb hy d5_11) rfl rfl rfl ?_
  have c2 := (z1.keep K1)
  have c3 := (z0.keep K1)
  refine o_virtualC W1 (w38 hw) (w39 hw) (o_nf W1 rfl (w41 hw)) (w41 hw) (w40 hw) (by decide) c3 (w42 hw) (w8 hw) (c2 _ W1.old (Keep.refl _ _)).2.1 0 0 0 (by decide) (by rw [hml]; rfl) (lenOf pd17 rfl) [] rfl rfl 15 (hb hy d5_12) rfl rfl rfl all0 tri ?_
  intro v4 T4 h4 lo4 W4 K4 q4
  obtain rfl := q4.2.2
  show Gl _ _ _ _ _ _ _ _ [(.int 4)]
  refine o_sipush W4 (v := 128) 18 (hb hy d5_15) (by decide) rfl <| o_icmpY W4 23 (hb hy d5_18) (XT.ii_le_t (by decide)) (by decide) rfl <| o_iconst W4 (v := 1) 24 (hb hy d5_23) rfl rfl <| o_istoreN W4 (L' := #[vr a1, vi 1, un, un]) 25 (hb hy d5_24) rfl rfl <| o_iconst W4 (v := 0) 26 (hb hy d5_25) rfl rfl <| o_istoreN W4 (L' := #[vr a1, vi 1, vi 0, un]) 27 (hb hy d5_26) rfl rfl ?_
  refine o_iloadN W4 28 (hb hy d5_27) rfl rfl <| o_aloadN W4 29 (hb hy d5_28) rfl rfl rfl ?_
  have c5 := (c2.keep K4)
  have c6 := (c3.keep K4)
  refine o_virtualC W4 (w38 hw) (w39 hw) (o_nf W4 rfl (w41 hw)) (w41 hw) (w40 hw) (by decide) c6 (w42 hw) (w8 hw) (c5 _ W4.old (Keep.refl _ _)).2.1 1 0 0 (by decide) (by rw [hml]; rfl) (lenOf pd17 rfl) [iZ] rfl rfl 32 (hb hy d5_29) rfl rfl rfl all0 tri ?_
  intro v7 T7 h7 lo7 W7 K7 q7
  obtain rfl := q7.2.2
  show Gl _ _ _ _ _ _ _ _ [(.int 4), iZ]
  refine o_icmpN W7 35 (hb hy d5_32) (XT.ii_ge_f (by decide)) rfl <| o_iloadN W7 36 (hb hy d5_35) rfl rfl <| o_ifN W7 39 (hb hy d5_36) (XT.i0_eq_f (by decide)) rfl <| o_aloadN W7 40 (hb hy d5_39) rfl rfl rfl <| o_iloadN W7 41 (hb hy d5_40) rfl rfl ?_
  have c8 := (c5.keep K7)
  have c9 := (c6.keep K7)
  refine o_virtualC W7 (w49 hw) (w50 hw) (o_nf W7 rfl (w52 hw)) (w52 hw) (w51 hw) (by decide) c9 (w53 hw) (w8 hw) (al_h (c8 _ W7.old (Keep.refl _ _)).2.2) 0 0 0 (by decide) (by rw [hml]; rfl) (lenOf pd18 rfl) [] rfl rfl 44 (hb hy d5_41) rfl rfl rfl all0 tri ?_
  intro v10 T10 h10 lo10 W10 K10 q10
  obtain rfl := q10.2.2
  show Gl _ _ _ _ _ _ _ _ [(.int x1)]
  refine o_istoreN W10 (L' := #[vr a1, vi 1, vi 0, vi x1]) 45 (hb hy d5_44) rfl rfl ?_
  refine own_tst W10 hy ?_
  rw [own_ok1 hc11]
  refine o_istoreN W10 (L' := #[vr a1, vi 1, vi 0, vi x1]) 105 (hb hy d5_104) rfl rfl <| o_iinc W10 (v := 1) (L' := #[vr a1, vi 1, vi 1, vi x1]) 108 (hb hy d5_105) rfl (by decide) rfl rfl <| o_goto W10 27 (hb hy d5_108) (by decide) rfl <| o_iloadN W10 28 (hb hy d5_27) rfl rfl <| o_aloadN W10 29 (hb hy d5_28) rfl rfl rfl ?_
  have c12 := (c8.keep K10)
  have c13 := (c9.keep K10)
  refine o_virtualC W10 (w38 hw) (w39 hw) (o_nf W10 rfl (w41 hw)) (w41 hw) (w40 hw) (by decide) c13 (w42 hw) (w8 hw) (c12 _ W10.old (Keep.refl _ _)).2.1 1 0 0 (by decide) (by rw [hml]; rfl) (lenOf pd17 rfl) [(.int 1)] rfl rfl 32 (hb hy d5_29) rfl rfl rfl all0 tri ?_
  intro v14 T14 h14 lo14 W14 K14 q14
  obtain rfl := q14.2.2
  show Gl _ _ _ _ _ _ _ _ [(.int 4), (.int 1)]
  refine o_icmpN W14 35 (hb hy d5_32) (XT.ii_ge_f (by decide)) rfl <| o_iloadN W14 36 (hb hy d5_35) rfl rfl <| o_ifN W14 39 (hb hy d5_36) (XT.i0_eq_f (by decide)) rfl <| o_aloadN W14 40 (hb hy d5_39) rfl rfl rfl <| o_iloadN W14 41 (hb hy d5_40) rfl rfl ?_
  have c15 := (c12.keep K14)
  have c16 := (c13.keep K14)
  refine o_virtualC W14 (w49 hw) (w50 hw) (o_nf W14 rfl (w52 hw)) (w52 hw) (w51 hw) (by decide) c16 (w53 hw) (w8 hw) (al_h (al_t (c15 _ W14.old (Keep.refl _ _)).2.2)) 0 0 0 (by decide) (by rw [hml]; rfl) (lenOf pd18 rfl) [] rfl rfl 44 (hb hy d5_41) rfl rfl rfl all0 tri ?_
  intro v17 T17 h17 lo17 W17 K17 q17
  obtain rfl := q17.2.2
  show Gl _ _ _ _ _ _ _ _ [(.int x2)]
  refine o_istoreN W17 (L' := #[vr a1, vi 1, vi 1, vi x2]) 45 (hb hy d5_44) rfl rfl ?_
  refine own_tst W17 hy ?_
  rw [hc18]
  refine o_istoreN W17 (L' := #[vr a1, vi 0, vi 1, vi x2]) 105 (hb hy d5_104) rfl rfl <| o_iinc W17 (v := 2) (L' := #[vr a1, vi 0, vi 2, vi x2]) 108 (hb hy d5_105) rfl (by decide) rfl rfl <| o_goto W17 27 (hb hy d5_108) (by decide) rfl <| o_iloadN W17 28 (hb hy d5_27) rfl rfl <| o_aloadN W17 29 (hb hy d5_28) rfl rfl rfl ?_
  have c19 := (c15.keep K17)
  have c20 := (c16.keep K17)
  refine o_virtualC W17 (w38 hw) (w39 hw) (o_nf W17 rfl (w41 hw)) (w41 hw) (w40 hw) (by decide) c20 (w42 hw) (w8 hw) (c19 _ W17.old (Keep.refl _ _)).2.1 1 0 0 (by decide) (by rw [hml]; rfl) (lenOf pd17 rfl) [(.int 2)] rfl rfl 32 (hb hy d5_29) rfl rfl rfl all0 tri ?_
  intro v21 T21 h21 lo21 W21 K21 q21
  obtain rfl := q21.2.2
  show Gl _ _ _ _ _ _ _ _ [(.int 4), (.int 2)]
  refine o_icmpN W21 35 (hb hy d5_32) (XT.ii_ge_f (by decide)) rfl <| o_iloadN W21 36 (hb hy d5_35) rfl rfl <| o_ifY W21 111 (hb hy d5_36) (XT.i0_eq_t (by decide)) (by decide) rfl <| o_iloadN W21 112 (hb hy d5_111) rfl rfl ?_
  exact o_retN W21 hlk (t := .boolean) hret (by simp) (z' := (0 : Int32)) (by decide) (hb hy d5_112) (by decide) (by decide) rfl
theorem rm208 (l : Launch) {Z a0} (hw : HW Z a0) (a1 : Addr) (x1 x2 x3 x4 : Int32) (h0 : Heap) (O0 : Old Z Z.heap.size h0) (z0 : Exa Z h0 a1 s0) (z1 : Sv l Z h0 a1 (4 : Int32) [((0 : Int32), x1), ((1 : Int32), x2), ((2 : Int32), x3), ((3 : Int32), x4)]) (hc11 : ¬ ((own_okc x1) = (0 : Int32))) (hc18 : ¬ ((own_okc x2) = (0 : Int32))) (hc25 : (own_okc x3) = (0 : Int32)) :
    CtrN l Z mn7 prog_6_method_2_code 4 (some .boolean) [] (⟨6, 0, 0, 83⟩ : Room) #[(.ref a1)] h0 [] (fun v h => v = some iZ) := by
  refine CtrN.intro (L0 := #[vr a1, un, un, un]) (plainFor_of_name pn2) O0 (own_entry rfl) ?_
  intro p e s m below meth c T0 hy hml hret hlk hnm W0
  refine o_aloadN W0 1 (hb hy d5_0) rfl rfl rfl ?_
  refine o_ifnullN W0 4 (hb hy d5_1) rfl ?_
  refine o_aloadN W0 5 (hb hy d5_4) rfl rfl rfl ?_
  refine o_virtualC W0 (w31 hw) (w32 hw) (o_nf W0 rfl (w34 hw)) (w34 hw) (w33 hw) (by decide) z0 (w35 hw) (w8 hw) (z1 _ W0.old (Keep.refl _ _)).1 0 0 0 (by decide) (by rw [hml]; rfl) (lenOf pd3 rfl) [] rfl rfl 8 (hb hy d5_5) rfl rfl rfl all0 tri ?_
  intro v1 T1 h1 lo1 W1 K1 q1
  obtain rfl := q1.2.2
  show Gl _ _ _ _ _ _ _ _ [iZ]
  refine o_ifN W1 11 (hb hy d5_8) (XT.i0_ne_f (by decide)) rfl <| o_aloadN W1 12 (hb hy d5_11) rfl rfl rfl ?_
  have c2 := (z1.keep K1)
  have c3 := (z0.keep K1)
  refine o_virtualC W1 (w38 hw) (w39 hw) (o_nf W1 rfl (w41 hw)) (w41 hw) (w40 hw) (by decide) c3 (w42 hw) (w8 hw) (c2 _ W1.old (Keep.refl _ _)).2.1 0 0 0 (by decide) (by rw [hml]; rfl) (lenOf pd17 rfl) [] rfl rfl 15 (hb hy d5_12) rfl rfl rfl all0 tri ?_
  intro v4 T4 h4 lo4 W4 K4 q4
  obtain rfl := q4.2.2
  show Gl _ _ _ _ _ _ _ _ [(.int 4)]
  refine o_sipush W4 (v := 128) 18 (hb hy d5_15) (by decide) rfl <| o_icmpY W4 23 (hb hy d5_18) (XT.ii_le_t (by decide)) (by decide) rfl <| o_iconst W4 (v := 1) 24 (hb hy d5_23) rfl rfl <| o_istoreN W4 (L' := #[vr a1, vi 1, un, un]) 25 (hb hy d5_24) rfl rfl <| o_iconst W4 (v := 0) 26 (hb hy d5_25) rfl rfl <| o_istoreN W4 (L' := #[vr a1, vi 1, vi 0, un]) 27 (hb hy d5_26) rfl rfl ?_
  refine o_iloadN W4 28 (hb hy d5_27) rfl rfl <| o_aloadN W4 29 (hb hy d5_28) rfl rfl rfl ?_
  have c5 := (c2.keep K4)
  have c6 := (c3.keep K4)
  refine o_virtualC W4 (w38 hw) (w39 hw) (o_nf W4 rfl (w41 hw)) (w41 hw) (w40 hw) (by decide) c6 (w42 hw) (w8 hw) (c5 _ W4.old (Keep.refl _ _)).2.1 1 0 0 (by decide) (by rw [hml]; rfl) (lenOf pd17 rfl) [iZ] rfl rfl 32 (hb hy d5_29) rfl rfl rfl all0 tri ?_
  intro v7 T7 h7 lo7 W7 K7 q7
  obtain rfl := q7.2.2
  show Gl _ _ _ _ _ _ _ _ [(.int 4), iZ]
  refine o_icmpN W7 35 (hb hy d5_32) (XT.ii_ge_f (by decide)) rfl <| o_iloadN W7 36 (hb hy d5_35) rfl rfl <| o_ifN W7 39 (hb hy d5_36) (XT.i0_eq_f (by decide)) rfl <| o_aloadN W7 40 (hb hy d5_39) rfl rfl rfl <| o_iloadN W7 41 (hb hy d5_40) rfl rfl ?_
  have c8 := (c5.keep K7)
  have c9 := (c6.keep K7)
  refine o_virtualC W7 (w49 hw) (w50 hw) (o_nf W7 rfl (w52 hw)) (w52 hw) (w51 hw) (by decide) c9 (w53 hw) (w8 hw) (al_h (c8 _ W7.old (Keep.refl _ _)).2.2) 0 0 0 (by decide) (by rw [hml]; rfl) (lenOf pd18 rfl) [] rfl rfl 44 (hb hy d5_41) rfl rfl rfl all0 tri ?_
  intro v10 T10 h10 lo10 W10 K10 q10
  obtain rfl := q10.2.2
  show Gl _ _ _ _ _ _ _ _ [(.int x1)]
  refine o_istoreN W10 (L' := #[vr a1, vi 1, vi 0, vi x1]) 45 (hb hy d5_44) rfl rfl ?_
  refine own_tst W10 hy ?_
  rw [own_ok1 hc11]
  refine o_istoreN W10 (L' := #[vr a1, vi 1, vi 0, vi x1]) 105 (hb hy d5_104) rfl rfl <| o_iinc W10 (v := 1) (L' := #[vr a1, vi 1, vi 1, vi x1]) 108 (hb hy d5_105) rfl (by decide) rfl rfl <| o_goto W10 27 (hb hy d5_108) (by decide) rfl <| o_iloadN W10 28 (hb hy d5_27) rfl rfl <| o_aloadN W10 29 (hb hy d5_28) rfl rfl rfl ?_
  have c12 := (c8.keep K10)
  have c13 := (c9.keep K10)
  refine o_virtualC W10 (w38 hw) (w39 hw) (o_nf W10 rfl (w41 hw)) (w41 hw) (w40 hw) (by decide) c13 (w42 hw) (w8 hw) (c12 _ W10.old (Keep.refl _ _)).2.1 1 0 0 (by decide) (by rw [hml]; rfl) (lenOf pd17 rfl) [(.int 1)] rfl rfl 32 (hb hy d5_29) rfl rfl rfl all0 tri ?_
  intro v14 T14 h14 lo14 W14 K14 q14
  obtain rfl := q14.2.2
  show Gl _ _ _ _ _ _ _ _ [(.int 4), (.int 1)]
  refine o_icmpN W14 35 (hb hy d5_32) (XT.ii_ge_f (by decide)) rfl <| o_iloadN W14 36 (hb hy d5_35) rfl rfl <| o_ifN W14 39 (hb hy d5_36) (XT.i0_eq_f (by decide)) rfl <| o_aloadN W14 40 (hb hy d5_39) rfl rfl rfl <| o_iloadN W14 41 (hb hy d5_40) rfl rfl ?_
  have c15 := (c12.keep K14)
  have c16 := (c13.keep K14)
  refine o_virtualC W14 (w49 hw) (w50 hw) (o_nf W14 rfl (w52 hw)) (w52 hw) (w51 hw) (by decide) c16 (w53 hw) (w8 hw) (al_h (al_t (c15 _ W14.old (Keep.refl _ _)).2.2)) 0 0 0 (by decide) (by rw [hml]; rfl) (lenOf pd18 rfl) [] rfl rfl 44 (hb hy d5_41) rfl rfl rfl all0 tri ?_
  intro v17 T17 h17 lo17 W17 K17 q17
  obtain rfl := q17.2.2
  show Gl _ _ _ _ _ _ _ _ [(.int x2)]
  refine o_istoreN W17 (L' := #[vr a1, vi 1, vi 1, vi x2]) 45 (hb hy d5_44) rfl rfl ?_
  refine own_tst W17 hy ?_
  rw [own_ok1 hc18]
  refine o_istoreN W17 (L' := #[vr a1, vi 1, vi 1, vi x2]) 105 (hb hy d5_104) rfl rfl <| o_iinc W17 (v := 2) (L' := #[vr a1, vi 1, vi 2, vi x2]) 108 (hb hy d5_105) rfl (by decide) rfl rfl <| o_goto W17 27 (hb hy d5_108) (by decide) rfl <| o_iloadN W17 28 (hb hy d5_27) rfl rfl <| o_aloadN W17 29 (hb hy d5_28) rfl rfl rfl ?_
  have c19 := (c15.keep K17)
  have c20 := (c16.keep K17)
  refine o_virtualC W17 (w38 hw) (w39 hw) (o_nf W17 rfl (w41 hw)) (w41 hw) (w40 hw) (by decide) c20 (w42 hw) (w8 hw) (c19 _ W17.old (Keep.refl _ _)).2.1 1 0 0 (by decide) (by rw [hml]; rfl) (lenOf pd17 rfl) [(.int 2)] rfl rfl 32 (hb hy d5_29) rfl rfl rfl all0 tri ?_
  intro v21 T21 h21 lo21 W21 K21 q21
  obtain rfl := q21.2.2
  show Gl _ _ _ _ _ _ _ _ [(.int 4), (.int 2)]
  refine o_icmpN W21 35 (hb hy d5_32) (XT.ii_ge_f (by decide)) rfl <| o_iloadN W21 36 (hb hy d5_35) rfl rfl <| o_ifN W21 39 (hb hy d5_36) (XT.i0_eq_f (by decide)) rfl <| o_aloadN W21 40 (hb hy d5_39) rfl rfl rfl <| o_iloadN W21 41 (hb hy d5_40) rfl rfl ?_
  have c22 := (c19.keep K21)
  have c23 := (c20.keep K21)
  refine o_virtualC W21 (w49 hw) (w50 hw) (o_nf W21 rfl (w52 hw)) (w52 hw) (w51 hw) (by decide) c23 (w53 hw) (w8 hw) (al_h (al_t (al_t (c22 _ W21.old (Keep.refl _ _)).2.2))) 0 0 0 (by decide) (by rw [hml]; rfl) (lenOf pd18 rfl) [] rfl rfl 44 (hb hy d5_41) rfl rfl rfl all0 tri ?_
  intro v24 T24 h24 lo24 W24 K24 q24
  obtain rfl := q24.2.2
  show Gl _ _ _ _ _ _ _ _ [(.int x3)]
  refine o_istoreN W24 (L' := #[vr a1, vi 1, vi 2, vi x3]) 45 (hb hy d5_44) rfl rfl ?_
  refine own_tst W24 hy ?_
  rw [hc25]
  refine o_istoreN W24 (L' := #[vr a1, vi 0, vi 2, vi x3]) 105 (hb hy d5_104) rfl rfl <| o_iinc W24 (v := 3) (L' := #[vr a1, vi 0, vi 3, vi x3]) 108 (hb hy d5_105) rfl (by decide) rfl rfl <| o_goto W24 27 (hb hy d5_108) (by decide) rfl <| o_iloadN W24 28 (hb hy d5_27) rfl rfl <| o_aloadN W24 29 (hb hy d5_28) rfl rfl rfl ?_
  have c26 := (c22.keep K24)
  have c27 := (c23.keep K24)
  refine o_virtualC W24 (w38 hw) (w39 hw) (o_nf W24 rfl (w41 hw)) (w41 hw) (w40 hw) (by decide) c27 (w42 hw) (w8 hw) (c26 _ W24.old (Keep.refl _ _)).2.1 1 0 0 (by decide) (by rw [hml]; rfl) (lenOf pd17 rfl) [(.int 3)] rfl rfl 32 (hb hy d5_29) rfl rfl rfl all0 tri ?_
  intro v28 T28 h28 lo28 W28 K28 q28
  obtain rfl := q28.2.2
  show Gl _ _ _ _ _ _ _ _ [(.int 4), (.int 3)]
  refine o_icmpN W28 35 (hb hy d5_32) (XT.ii_ge_f (by decide)) rfl <| o_iloadN W28 36 (hb hy d5_35) rfl rfl <| o_ifY W28 111 (hb hy d5_36) (XT.i0_eq_t (by decide)) (by decide) rfl <| o_iloadN W28 112 (hb hy d5_111) rfl rfl ?_
  exact o_retN W28 hlk (t := .boolean) hret (by simp) (z' := (0 : Int32)) (by decide) (hb hy d5_112) (by decide) (by decide) rfl
theorem rm209 (l : Launch) {Z a0} (hw : HW Z a0) (a1 : Addr) (x1 x2 x3 x4 : Int32) (h0 : Heap) (O0 : Old Z Z.heap.size h0) (z0 : Exa Z h0 a1 s0) (z1 : Sv l Z h0 a1 (4 : Int32) [((0 : Int32), x1), ((1 : Int32), x2), ((2 : Int32), x3), ((3 : Int32), x4)]) (hc11 : ¬ ((own_okc x1) = (0 : Int32))) (hc18 : ¬ ((own_okc x2) = (0 : Int32))) (hc25 : ¬ ((own_okc x3) = (0 : Int32))) (hc32 : (own_okc x4) = (0 : Int32)) :
    CtrN l Z mn7 prog_6_method_2_code 4 (some .boolean) [] (⟨6, 0, 0, 83⟩ : Room) #[(.ref a1)] h0 [] (fun v h => v = some iZ) := by
  refine CtrN.intro (L0 := #[vr a1, un, un, un]) (plainFor_of_name pn2) O0 (own_entry rfl) ?_
  intro p e s m below meth c T0 hy hml hret hlk hnm W0
  refine o_aloadN W0 1 (hb hy d5_0) rfl rfl rfl ?_
  refine o_ifnullN W0 4 (hb hy d5_1) rfl ?_
  refine o_aloadN W0 5 (hb hy d5_4) rfl rfl rfl ?_
  refine o_virtualC W0 (w31 hw) (w32 hw) (o_nf W0 rfl (w34 hw)) (w34 hw) (w33 hw) (by decide) z0 (w35 hw) (w8 hw) (z1 _ W0.old (Keep.refl _ _)).1 0 0 0 (by decide) (by rw [hml]; rfl) (lenOf pd3 rfl) [] rfl rfl 8 (hb hy d5_5) rfl rfl rfl all0 tri ?_
  intro v1 T1 h1 lo1 W1 K1 q1
  obtain rfl := q1.2.2
  show Gl _ _ _ _ _ _ _ _ [iZ]
  refine o_ifN W1 11 (hb hy d5_8) (XT.i0_ne_f (by decide)) rfl <| o_aloadN W1 12 (hb hy d5_11) rfl rfl rfl ?_
  have c2 := (z1.keep K1)
  have c3 := (z0.keep K1)
  refine o_virtualC W1 (w38 hw) (w39 hw) (o_nf W1 rfl (w41 hw)) (w41 hw) (w40 hw) (by decide) c3 (w42 hw) (w8 hw) (c2 _ W1.old (Keep.refl _ _)).2.1 0 0 0 (by decide) (by rw [hml]; rfl) (lenOf pd17 rfl) [] rfl rfl 15 (hb hy d5_12) rfl rfl rfl all0 tri ?_
  intro v4 T4 h4 lo4 W4 K4 q4
  obtain rfl := q4.2.2
  show Gl _ _ _ _ _ _ _ _ [(.int 4)]
  refine o_sipush W4 (v := 128) 18 (hb hy d5_15) (by decide) rfl <| o_icmpY W4 23 (hb hy d5_18) (XT.ii_le_t (by decide)) (by decide) rfl <| o_iconst W4 (v := 1) 24 (hb hy d5_23) rfl rfl <| o_istoreN W4 (L' := #[vr a1, vi 1, un, un]) 25 (hb hy d5_24) rfl rfl <| o_iconst W4 (v := 0) 26 (hb hy d5_25) rfl rfl <| o_istoreN W4 (L' := #[vr a1, vi 1, vi 0, un]) 27 (hb hy d5_26) rfl rfl ?_
  refine o_iloadN W4 28 (hb hy d5_27) rfl rfl <| o_aloadN W4 29 (hb hy d5_28) rfl rfl rfl ?_
  have c5 := (c2.keep K4)
  have c6 := (c3.keep K4)
  refine o_virtualC W4 (w38 hw) (w39 hw) (o_nf W4 rfl (w41 hw)) (w41 hw) (w40 hw) (by decide) c6 (w42 hw) (w8 hw) (c5 _ W4.old (Keep.refl _ _)).2.1 1 0 0 (by decide) (by rw [hml]; rfl) (lenOf pd17 rfl) [iZ] rfl rfl 32 (hb hy d5_29) rfl rfl rfl all0 tri ?_
  intro v7 T7 h7 lo7 W7 K7 q7
  obtain rfl := q7.2.2
  show Gl _ _ _ _ _ _ _ _ [(.int 4), iZ]
  refine o_icmpN W7 35 (hb hy d5_32) (XT.ii_ge_f (by decide)) rfl <| o_iloadN W7 36 (hb hy d5_35) rfl rfl <| o_ifN W7 39 (hb hy d5_36) (XT.i0_eq_f (by decide)) rfl <| o_aloadN W7 40 (hb hy d5_39) rfl rfl rfl <| o_iloadN W7 41 (hb hy d5_40) rfl rfl ?_
  have c8 := (c5.keep K7)
  have c9 := (c6.keep K7)
  refine o_virtualC W7 (w49 hw) (w50 hw) (o_nf W7 rfl (w52 hw)) (w52 hw) (w51 hw) (by decide) c9 (w53 hw) (w8 hw) (al_h (c8 _ W7.old (Keep.refl _ _)).2.2) 0 0 0 (by decide) (by rw [hml]; rfl) (lenOf pd18 rfl) [] rfl rfl 44 (hb hy d5_41) rfl rfl rfl all0 tri ?_
  intro v10 T10 h10 lo10 W10 K10 q10
  obtain rfl := q10.2.2
  show Gl _ _ _ _ _ _ _ _ [(.int x1)]
  refine o_istoreN W10 (L' := #[vr a1, vi 1, vi 0, vi x1]) 45 (hb hy d5_44) rfl rfl ?_
  refine own_tst W10 hy ?_
  rw [own_ok1 hc11]
  refine o_istoreN W10 (L' := #[vr a1, vi 1, vi 0, vi x1]) 105 (hb hy d5_104) rfl rfl <| o_iinc W10 (v := 1) (L' := #[vr a1, vi 1, vi 1, vi x1]) 108 (hb hy d5_105) rfl (by decide) rfl rfl <| o_goto W10 27 (hb hy d5_108) (by decide) rfl <| o_iloadN W10 28 (hb hy d5_27) rfl rfl <| o_aloadN W10 29 (hb hy d5_28) rfl rfl rfl ?_
  have c12 := (c8.keep K10)
  have c13 := (c9.keep K10)
  refine o_virtualC W10 (w38 hw) (w39 hw) (o_nf W10 rfl (w41 hw)) (w41 hw) (w40 hw) (by decide) c13 (w42 hw) (w8 hw) (c12 _ W10.old (Keep.refl _ _)).2.1 1 0 0 (by decide) (by rw [hml]; rfl) (lenOf pd17 rfl) [(.int 1)] rfl rfl 32 (hb hy d5_29) rfl rfl rfl all0 tri ?_
  intro v14 T14 h14 lo14 W14 K14 q14
  obtain rfl := q14.2.2
  show Gl _ _ _ _ _ _ _ _ [(.int 4), (.int 1)]
  refine o_icmpN W14 35 (hb hy d5_32) (XT.ii_ge_f (by decide)) rfl <| o_iloadN W14 36 (hb hy d5_35) rfl rfl <| o_ifN W14 39 (hb hy d5_36) (XT.i0_eq_f (by decide)) rfl <| o_aloadN W14 40 (hb hy d5_39) rfl rfl rfl <| o_iloadN W14 41 (hb hy d5_40) rfl rfl ?_
  have c15 := (c12.keep K14)
  have c16 := (c13.keep K14)
  refine o_virtualC W14 (w49 hw) (w50 hw) (o_nf W14 rfl (w52 hw)) (w52 hw) (w51 hw) (by decide) c16 (w53 hw) (w8 hw) (al_h (al_t (c15 _ W14.old (Keep.refl _ _)).2.2)) 0 0 0 (by decide) (by rw [hml]; rfl) (lenOf pd18 rfl) [] rfl rfl 44 (hb hy d5_41) rfl rfl rfl all0 tri ?_
  intro v17 T17 h17 lo17 W17 K17 q17
  obtain rfl := q17.2.2
  show Gl _ _ _ _ _ _ _ _ [(.int x2)]
  refine o_istoreN W17 (L' := #[vr a1, vi 1, vi 1, vi x2]) 45 (hb hy d5_44) rfl rfl ?_
  refine own_tst W17 hy ?_
  rw [own_ok1 hc18]
  refine o_istoreN W17 (L' := #[vr a1, vi 1, vi 1, vi x2]) 105 (hb hy d5_104) rfl rfl <| o_iinc W17 (v := 2) (L' := #[vr a1, vi 1, vi 2, vi x2]) 108 (hb hy d5_105) rfl (by decide) rfl rfl <| o_goto W17 27 (hb hy d5_108) (by decide) rfl <| o_iloadN W17 28 (hb hy d5_27) rfl rfl <| o_aloadN W17 29 (hb hy d5_28) rfl rfl rfl ?_
  have c19 := (c15.keep K17)
  have c20 := (c16.keep K17)
  refine o_virtualC W17 (w38 hw) (w39 hw) (o_nf W17 rfl (w41 hw)) (w41 hw) (w40 hw) (by decide) c20 (w42 hw) (w8 hw) (c19 _ W17.old (Keep.refl _ _)).2.1 1 0 0 (by decide) (by rw [hml]; rfl) (lenOf pd17 rfl) [(.int 2)] rfl rfl 32 (hb hy d5_29) rfl rfl rfl all0 tri ?_
  intro v21 T21 h21 lo21 W21 K21 q21
  obtain rfl := q21.2.2
  show Gl _ _ _ _ _ _ _ _ [(.int 4), (.int 2)]
  refine o_icmpN W21 35 (hb hy d5_32) (XT.ii_ge_f (by decide)) rfl <| o_iloadN W21 36 (hb hy d5_35) rfl rfl <| o_ifN W21 39 (hb hy d5_36) (XT.i0_eq_f (by decide)) rfl <| o_aloadN W21 40 (hb hy d5_39) rfl rfl rfl <| o_iloadN W21 41 (hb hy d5_40) rfl rfl ?_
  have c22 := (c19.keep K21)
  have c23 := (c20.keep K21)
  refine o_virtualC W21 (w49 hw) (w50 hw) (o_nf W21 rfl (w52 hw)) (w52 hw) (w51 hw) (by decide) c23 (w53 hw) (w8 hw) (al_h (al_t (al_t (c22 _ W21.old (Keep.refl _ _)).2.2))) 0 0 0 (by decide) (by rw [hml]; rfl) (lenOf pd18 rfl) [] rfl rfl 44 (hb hy d5_41) rfl rfl rfl all0 tri ?_
  intro v24 T24 h24 lo24 W24 K24 q24
  obtain rfl := q24.2.2
  show Gl _ _ _ _ _ _ _ _ [(.int x3)]
  refine o_istoreN W24 (L' := #[vr a1, vi 1, vi 2, vi x3]) 45 (hb hy d5_44) rfl rfl ?_
  refine own_tst W24 hy ?_
  rw [own_ok1 hc25]
  refine o_istoreN W24 (L' := #[vr a1, vi 1, vi 2, vi x3]) 105 (hb hy d5_104) rfl rfl <| o_iinc W24 (v := 3) (L' := #[vr a1, vi 1, vi 3, vi x3]) 108 (hb hy d5_105) rfl (by decide) rfl rfl <| o_goto W24 27 (hb hy d5_108) (by decide) rfl <| o_iloadN W24 28 (hb hy d5_27) rfl rfl <| o_aloadN W24 29 (hb hy d5_28) rfl rfl rfl ?_
  have c26 := (c22.keep K24)
  have c27 := (c23.keep K24)
  refine o_virtualC W24 (w38 hw) (w39 hw) (o_nf W24 rfl (w41 hw)) (w41 hw) (w40 hw) (by decide) c27 (w42 hw) (w8 hw) (c26 _ W24.old (Keep.refl _ _)).2.1 1 0 0 (by decide) (by rw [hml]; rfl) (lenOf pd17 rfl) [(.int 3)] rfl rfl 32 (hb hy d5_29) rfl rfl rfl all0 tri ?_
  intro v28 T28 h28 lo28 W28 K28 q28
  obtain rfl := q28.2.2
  show Gl _ _ _ _ _ _ _ _ [(.int 4), (.int 3)]
  refine o_icmpN W28 35 (hb hy d5_32) (XT.ii_ge_f (by decide)) rfl <| o_iloadN W28 36 (hb hy d5_35) rfl rfl <| o_ifN W28 39 (hb hy d5_36) (XT.i0_eq_f (by decide)) rfl <| o_aloadN W28 40 (hb hy d5_39) rfl rfl rfl <| o_iloadN W28 41 (hb hy d5_40) rfl rfl ?_
  have c29 := (c26.keep K28)
  have c30 := (c27.keep K28)
  refine o_virtualC W28 (w49 hw) (w50 hw) (o_nf W28 rfl (w52 hw)) (w52 hw) (w51 hw) (by decide) c30 (w53 hw) (w8 hw) (al_h (al_t (al_t (al_t (c29 _ W28.old (Keep.refl _ _)).2.2)))) 0 0 0 (by decide) (by rw [hml]; rfl) (lenOf pd18 rfl) [] rfl rfl 44 (hb hy d5_41) rfl rfl rfl all0 tri ?_
  intro v31 T31 h31 lo31 W31 K31 q31
  obtain rfl := q31.2.2
  show Gl _ _ _ _ _ _ _ _ [(.int x4)]
  refine o_istoreN W31 (L' := #[vr a1, vi 1, vi 3, vi x4]) 45 (hb hy d5_44) rfl rfl ?_
  refine own_tst W31 hy ?_
  rw [hc32]
  refine o_istoreN W31 (L' := #[vr a1, vi 0, vi 3, vi x4]) 105 (hb hy d5_104) rfl rfl <| o_iinc W31 (v := 4) (L' := #[vr a1, vi 0, vi 4, vi x4]) 108 (hb hy d5_105) rfl (by decide) rfl rfl <| o_goto W31 27 (hb hy d5_108) (by decide) rfl <| o_iloadN W31 28 (hb hy d5_27) rfl rfl <| o_aloadN W31 29 (hb hy d5_28) rfl rfl rfl ?_
  have c33 := (c29.keep K31)
  have c34 := (c30.keep K31)
  refine o_virtualC W31 (w38 hw) (w39 hw) (o_nf W31 rfl (w41 hw)) (w41 hw) (w40 hw) (by decide) c34 (w42 hw) (w8 hw) (c33 _ W31.old (Keep.refl _ _)).2.1 1 0 0 (by decide) (by rw [hml]; rfl) (lenOf pd17 rfl) [(.int 4)] rfl rfl 32 (hb hy d5_29) rfl rfl rfl all0 tri ?_
  intro v35 T35 h35 lo35 W35 K35 q35
  obtain rfl := q35.2.2
  show Gl _ _ _ _ _ _ _ _ [(.int 4), (.int 4)]
  refine o_icmpY W35 111 (hb hy d5_32) (XT.ii_ge_t (by decide)) (by decide) rfl <| o_iloadN W35 112 (hb hy d5_111) rfl rfl ?_
  exact o_retN W35 hlk (t := .boolean) hret (by simp) (z' := (0 : Int32)) (by decide) (hb hy d5_112) (by decide) (by decide) rfl
theorem rm210 (l : Launch) {Z a0} (hw : HW Z a0) (a1 : Addr) (x1 x2 x3 x4 : Int32) (h0 : Heap) (O0 : Old Z Z.heap.size h0) (z0 : Exa Z h0 a1 s0) (z1 : Sv l Z h0 a1 (4 : Int32) [((0 : Int32), x1), ((1 : Int32), x2), ((2 : Int32), x3), ((3 : Int32), x4)]) (hc11 : ¬ ((own_okc x1) = (0 : Int32))) (hc18 : ¬ ((own_okc x2) = (0 : Int32))) (hc25 : ¬ ((own_okc x3) = (0 : Int32))) (hc32 : ¬ ((own_okc x4) = (0 : Int32))) :
    CtrN l Z mn7 prog_6_method_2_code 4 (some .boolean) [] (⟨6, 0, 0, 83⟩ : Room) #[(.ref a1)] h0 [] (fun v h => v = some (.int 1)) := by
  refine CtrN.intro (L0 := #[vr a1, un, un, un]) (plainFor_of_name pn2) O0 (own_entry rfl) ?_
  intro p e s m below meth c T0 hy hml hret hlk hnm W0
  refine o_aloadN W0 1 (hb hy d5_0) rfl rfl rfl ?_
  refine o_ifnullN W0 4 (hb hy d5_1) rfl ?_
  refine o_aloadN W0 5 (hb hy d5_4) rfl rfl rfl ?_
  refine o_virtualC W0 (w31 hw) (w32 hw) (o_nf W0 rfl (w34 hw)) (w34 hw) (w33 hw) (by decide) z0 (w35 hw) (w8 hw) (z1 _ W0.old (Keep.refl _ _)).1 0 0 0 (by decide) (by rw [hml]; rfl) (lenOf pd3 rfl) [] rfl rfl 8 (hb hy d5_5) rfl rfl rfl all0 tri ?_
  intro v1 T1 h1 lo1 W1 K1 q1
  obtain rfl := q1.2.2
  show Gl _ _ _ _ _ _ _ _ [iZ]
  refine o_ifN W1 11 (hb hy d5_8) (XT.i0_ne_f (by decide)) rfl <| o_aloadN W1 12 (hb hy d5_11) rfl rfl rfl ?_
  have c2 := (z1.keep K1)
  have c3 := (z0.keep K1)
  refine o_virtualC W1 (w38 hw) (w39 hw) (o_nf W1 rfl (w41 hw)) (w41 hw) (w40 hw) (by decide) c3 (w42 hw) (w8 hw) (c2 _ W1.old (Keep.refl _ _)).2.1 0 0 0 (by decide) (by rw [hml]; rfl) (lenOf pd17 rfl) [] rfl rfl 15 (hb hy d5_12) rfl rfl rfl all0 tri ?_
  intro v4 T4 h4 lo4 W4 K4 q4
  obtain rfl := q4.2.2
  show Gl _ _ _ _ _ _ _ _ [(.int 4)]
  refine o_sipush W4 (v := 128) 18 (hb hy d5_15) (by decide) rfl <| o_icmpY W4 23 (hb hy d5_18) (XT.ii_le_t (by decide)) (by decide) rfl <| o_iconst W4 (v := 1) 24 (hb hy d5_23) rfl rfl <| o_istoreN W4 (L' := #[vr a1, vi 1, un, un]) 25 (hb hy d5_24) rfl rfl <| o_iconst W4 (v := 0) 26 (hb hy d5_25) rfl rfl <| o_istoreN W4 (L' := #[vr a1, vi 1, vi 0, un]) 27 (hb hy d5_26) rfl rfl ?_
  refine o_iloadN W4 28 (hb hy d5_27) rfl rfl <| o_aloadN W4 29 (hb hy d5_28) rfl rfl rfl ?_
  have c5 := (c2.keep K4)
  have c6 := (c3.keep K4)
  refine o_virtualC W4 (w38 hw) (w39 hw) (o_nf W4 rfl (w41 hw)) (w41 hw) (w40 hw) (by decide) c6 (w42 hw) (w8 hw) (c5 _ W4.old (Keep.refl _ _)).2.1 1 0 0 (by decide) (by rw [hml]; rfl) (lenOf pd17 rfl) [iZ] rfl rfl 32 (hb hy d5_29) rfl rfl rfl all0 tri ?_
  intro v7 T7 h7 lo7 W7 K7 q7
  obtain rfl := q7.2.2
  show Gl _ _ _ _ _ _ _ _ [(.int 4), iZ]
  refine o_icmpN W7 35 (hb hy d5_32) (XT.ii_ge_f (by decide)) rfl <| o_iloadN W7 36 (hb hy d5_35) rfl rfl <| o_ifN W7 39 (hb hy d5_36) (XT.i0_eq_f (by decide)) rfl <| o_aloadN W7 40 (hb hy d5_39) rfl rfl rfl <| o_iloadN W7 41 (hb hy d5_40) rfl rfl ?_
  have c8 := (c5.keep K7)
  have c9 := (c6.keep K7)
  refine o_virtualC W7 (w49 hw) (w50 hw) (o_nf W7 rfl (w52 hw)) (w52 hw) (w51 hw) (by decide) c9 (w53 hw) (w8 hw) (al_h (c8 _ W7.old (Keep.refl _ _)).2.2) 0 0 0 (by decide) (by rw [hml]; rfl) (lenOf pd18 rfl) [] rfl rfl 44 (hb hy d5_41) rfl rfl rfl all0 tri ?_
  intro v10 T10 h10 lo10 W10 K10 q10
  obtain rfl := q10.2.2
  show Gl _ _ _ _ _ _ _ _ [(.int x1)]
  refine o_istoreN W10 (L' := #[vr a1, vi 1, vi 0, vi x1]) 45 (hb hy d5_44) rfl rfl ?_
  refine own_tst W10 hy ?_
  rw [own_ok1 hc11]
  refine o_istoreN W10 (L' := #[vr a1, vi 1, vi 0, vi x1]) 105 (hb hy d5_104) rfl rfl <| o_iinc W10 (v := 1) (L' := #[vr a1, vi 1, vi 1, vi x1]) 108 (hb hy d5_105) rfl (by decide) rfl rfl <| o_goto W10 27 (hb hy d5_108) (by decide) rfl <| o_iloadN W10 28 (hb hy d5_27) rfl rfl <| o_aloadN W10 29 (hb hy d5_28) rfl rfl rfl ?_
  have c12 := (c8.keep K10)
  have c13 := (c9.keep K10)
  refine o_virtualC W10 (w38 hw) (w39 hw) (o_nf W10 rfl (w41 hw)) (w41 hw) (w40 hw) (by decide) c13 (w42 hw) (w8 hw) (c12 _ W10.old (Keep.refl _ _)).2.1 1 0 0 (by decide) (by rw [hml]; rfl) (lenOf pd17 rfl) [(.int 1)] rfl rfl 32 (hb hy d5_29) rfl rfl rfl all0 tri ?_
  intro v14 T14 h14 lo14 W14 K14 q14
  obtain rfl := q14.2.2
  show Gl _ _ _ _ _ _ _ _ [(.int 4), (.int 1)]
  refine o_icmpN W14 35 (hb hy d5_32) (XT.ii_ge_f (by decide)) rfl <| o_iloadN W14 36 (hb hy d5_35) rfl rfl <| o_ifN W14 39 (hb hy d5_36) (XT.i0_eq_f (by decide)) rfl <| o_aloadN W14 40 (hb hy d5_39) rfl rfl rfl <| o_iloadN W14 41 (hb hy d5_40) rfl rfl ?_
  have c15 := (c12.keep K14)
  have c16 := (c13.keep K14)
  refine o_virtualC W14 (w49 hw) (w50 hw) (o_nf W14 rfl (w52 hw)) (w52 hw) (w51 hw) (by decide) c16 (w53 hw) (w8 hw) (al_h (al_t (c15 _ W14.old (Keep.refl _ _)).2.2)) 0 0 0 (by decide) (by rw [hml]; rfl) (lenOf pd18 rfl) [] rfl rfl 44 (hb hy d5_41) rfl rfl rfl all0 tri ?_
  intro v17 T17 h17 lo17 W17 K17 q17
  obtain rfl := q17.2.2
  show Gl _ _ _ _ _ _ _ _ [(.int x2)]
  refine o_istoreN W17 (L' := #[vr a1, vi 1, vi 1, vi x2]) 45 (hb hy d5_44) rfl rfl ?_
  refine own_tst W17 hy ?_
  rw [own_ok1 hc18]
  refine o_istoreN W17 (L' := #[vr a1, vi 1, vi 1, vi x2]) 105 (hb hy d5_104) rfl rfl <| o_iinc W17 (v := 2) (L' := #[vr a1, vi 1, vi 2, vi x2]) 108 (hb hy d5_105) rfl (by decide) rfl rfl <| o_goto W17 27 (hb hy d5_108) (by decide) rfl <| o_iloadN W17 28 (hb hy d5_27) rfl rfl <| o_aloadN W17 29 (hb hy d5_28) rfl rfl rfl ?_
  have c19 := (c15.keep K17)
  have c20 := (c16.keep K17)
  refine o_virtualC W17 (w38 hw) (w39 hw) (o_nf W17 rfl (w41 hw)) (w41 hw) (w40 hw) (by decide) c20 (w42 hw) (w8 hw) (c19 _ W17.old (Keep.refl _ _)).2.1 1 0 0 (by decide) (by rw [hml]; rfl) (lenOf pd17 rfl) [(.int 2)] rfl rfl 32 (hb hy d5_29) rfl rfl rfl all0 tri ?_
  intro v21 T21 h21 lo21 W21 K21 q21
  obtain rfl := q21.2.2
  show Gl _ _ _ _ _ _ _ _ [(.int 4), (.int 2)]
  refine o_icmpN W21 35 (hb hy d5_32) (XT.ii_ge_f (by decide)) rfl <| o_iloadN W21 36 (hb hy d5_35) rfl rfl <| o_ifN W21 39 (hb hy d5_36) (XT.i0_eq_f (by decide)) rfl <| o_aloadN W21 40 (hb hy d5_39) rfl rfl rfl <| o_iloadN W21 41 (hb hy d5_40) rfl rfl ?_
  have c22 := (c19.keep K21)
  have c23 := (c20.keep K21)
  refine o_virtualC W21 (w49 hw) (w50 hw) (o_nf W21 rfl (w52 hw)) (w52 hw) (w51 hw) (by decide) c23 (w53 hw) (w8 hw) (al_h (al_t (al_t (c22 _ W21.old (Keep.refl _ _)).2.2))) 0 0 0 (by decide) (by rw [hml]; rfl) (lenOf pd18 rfl) [] rfl rfl 44 (hb hy d5_41) rfl rfl rfl all0 tri ?_
  intro v24 T24 h24 lo24 W24 K24 q24
  obtain rfl := q24.2.2
  show Gl _ _ _ _ _ _ _ _ [(.int x3)]
  refine o_istoreN W24 (L' := #[vr a1, vi 1, vi 2, vi x3]) 45 (hb hy d5_44) rfl rfl ?_
  refine own_tst W24 hy ?_
  rw [own_ok1 hc25]
  refine o_istoreN W24 (L' := #[vr a1, vi 1, vi 2, vi x3]) 105 (hb hy d5_104) rfl rfl <| o_iinc W24 (v := 3) (L' := #[vr a1, vi 1, vi 3, vi x3]) 108 (hb hy d5_105) rfl (by decide) rfl rfl <| o_goto W24 27 (hb hy d5_108) (by decide) rfl <| o_iloadN W24 28 (hb hy d5_27) rfl rfl <| o_aloadN W24 29 (hb hy d5_28) rfl rfl rfl ?_
  have c26 := (c22.keep K24)
  have c27 := (c23.keep K24)
  refine o_virtualC W24 (w38 hw) (w39 hw) (o_nf W24 rfl (w41 hw)) (w41 hw) (w40 hw) (by decide) c27 (w42 hw) (w8 hw) (c26 _ W24.old (Keep.refl _ _)).2.1 1 0 0 (by decide) (by rw [hml]; rfl) (lenOf pd17 rfl) [(.int 3)] rfl rfl 32 (hb hy d5_29) rfl rfl rfl all0 tri ?_
  intro v28 T28 h28 lo28 W28 K28 q28
  obtain rfl := q28.2.2
  show Gl _ _ _ _ _ _ _ _ [(.int 4), (.int 3)]
  refine o_icmpN W28 35 (hb hy d5_32) (XT.ii_ge_f (by decide)) rfl <| o_iloadN W28 36 (hb hy d5_35) rfl rfl <| o_ifN W28 39 (hb hy d5_36) (XT.i0_eq_f (by decide)) rfl <| o_aloadN W28 40 (hb hy d5_39) rfl rfl rfl <| o_iloadN W28 41 (hb hy d5_40) rfl rfl ?_
  have c29 := (c26.keep K28)
  have c30 := (c27.keep K28)
  refine o_virtualC W28 (w49 hw) (w50 hw) (o_nf W28 rfl (w52 hw)) (w52 hw) (w51 hw) (by decide) c30 (w53 hw) (w8 hw) (al_h (al_t (al_t (al_t (c29 _ W28.old (Keep.refl _ _)).2.2)))) 0 0 0 (by decide) (by rw [hml]; rfl) (lenOf pd18 rfl) [] rfl rfl 44 (hb hy d5_41) rfl rfl rfl all0 tri ?_
  intro v31 T31 h31 lo31 W31 K31 q31
  obtain rfl := q31.2.2
  show Gl _ _ _ _ _ _ _ _ [(.int x4)]
  refine o_istoreN W31 (L' := #[vr a1, vi 1, vi 3, vi x4]) 45 (hb hy d5_44) rfl rfl ?_
  refine own_tst W31 hy ?_
  rw [own_ok1 hc32]
  refine o_istoreN W31 (L' := #[vr a1, vi 1, vi 3, vi x4]) 105 (hb hy d5_104) rfl rfl <| o_iinc W31 (v := 4) (L' := #[vr a1, vi 1, vi 4, vi x4]) 108 (hb hy d5_105) rfl (by decide) rfl rfl <| o_goto W31 27 (hb hy d5_108) (by decide) rfl <| o_iloadN W31 28 (hb hy d5_27) rfl rfl <| o_aloadN W31 29 (hb hy d5_28) rfl rfl rfl ?_
  have c33 := (c29.keep K31)
  have c34 := (c30.keep K31)
  refine o_virtualC W31 (w38 hw) (w39 hw) (o_nf W31 rfl (w41 hw)) (w41 hw) (w40 hw) (by decide) c34 (w42 hw) (w8 hw) (c33 _ W31.old (Keep.refl _ _)).2.1 1 0 0 (by decide) (by rw [hml]; rfl) (lenOf pd17 rfl) [(.int 4)] rfl rfl 32 (hb hy d5_29) rfl rfl rfl all0 tri ?_
  intro v35 T35 h35 lo35 W35 K35 q35
  obtain rfl := q35.2.2
  show Gl _ _ _ _ _ _ _ _ [(.int 4), (.int 4)]
  refine o_icmpY W35 111 (hb hy d5_32) (XT.ii_ge_t (by decide)) (by decide) rfl <| o_iloadN W35 112 (hb hy d5_111) rfl rfl ?_
  exact o_retN W35 hlk (t := .boolean) hret (by simp) (z' := (1 : Int32)) (by decide) (hb hy d5_112) (by decide) (by decide) rfl
theorem rm211 (l : Launch) {Z a0} (hw : HW Z a0)  (h0 : Heap) (O0 : Old Z Z.heap.size h0) :
    CtrN l Z mn7 prog_6_method_2_code 4 (some .boolean) [] (⟨0, 0, 0, 0⟩ : Room) #[.null] h0 [] (fun v h => v = some iZ) := by
  refine CtrN.intro (L0 := #[.val .null, un, un, un]) (plainFor_of_name pn2) O0 (own_entry rfl) ?_
  intro p e s m below meth c T0 hy hml hret hlk hnm W0
  refine o_aloadN W0 1 (hb hy d5_0) rfl rfl rfl ?_
  refine o_ifnullY W0 21 (hb hy d5_1) (by decide) rfl ?_
  refine o_iconst W0 (v := 0) 22 (hb hy d5_21) rfl rfl ?_
  exact o_retN W0 hlk (t := .boolean) hret (by simp) (z' := (0 : Int32)) (by decide) (hb hy d5_22) (by decide) (by decide) rfl
theorem rm212 (l : Launch) {Z a0} (hw : HW Z a0) (a1 a2 : Addr) (z0 : ClassId) (h0 : Heap) (O0 : Old Z Z.heap.size h0) (z1 : Fld Z h0 a1 s0 "value" "[B" (.ref a2)) (z2 : Arv Z h0 a2 z0 .byte 128 own_lit128 iZ) :
    CtrN l Z mn0 jdk_42_method_55_code 1 (some .boolean) [] (⟨0, 0, 0, 0⟩ : Room) #[(.ref a1)] h0 [] (fun v h => v = some iZ) := by
  refine CtrN.intro (L0 := #[vr a1]) (plainFor_of_name pn1) O0 (own_entry rfl) ?_
  intro p e s m below meth c T0 hy hml hret hlk hnm W0
  refine o_aloadN W0 1 (hb hy d6_0) rfl rfl rfl ?_
  refine o_getF W0 (w25 hw) Via.refl z1 4 (hb hy d6_1) rfl ?_
  intro T1 W1
  refine o_len W1 z2 5 (hb hy d6_4) rfl <| o_ifY W1 12 (hb hy d6_5) (XT.i0_ne_t (by decide)) (by decide) rfl <| o_iconst W1 (v := 0) 13 (hb hy d6_12) rfl rfl ?_
  exact o_retN W1 hlk (t := .boolean) hret (by simp) (z' := (0 : Int32)) (by decide) (hb hy d6_13) (by decide) (by decide) rfl
theorem rm213 (l : Launch) {Z a0} (hw : HW Z a0) (gCS : Int32) (a1 a2 : Addr) (z0 : ClassId) (h0 : Heap) (O0 : Old Z Z.heap.size h0) (z1 : Fld Z h0 a1 s0 "value" "[B" (.ref a2)) (z2 : Arv Z h0 a2 z0 .byte 128 own_lit128 iZ) (z3 : Exa Z h0 a1 s0) (SgCS : Sta Z Z.heap s0 s8 "Z" (.int gCS)) (NgCS : ¬ (gCS = (0 : Int32))) (z4 : Fld Z h0 a1 s0 "coder" "B" iZ) :
    CtrN l Z mn1 jdk_42_method_54_code 1 (some .int) [] (⟨1, 0, 0, 14⟩ : Room) #[(.ref a1)] h0 [] (fun v h => v = some (.int 128)) := by
  refine CtrN.intro (L0 := #[vr a1]) (plainFor_of_name pn1) O0 (own_entry rfl) ?_
  intro p e s m below meth c T0 hy hml hret hlk hnm W0
  refine o_aloadN W0 1 (hb hy d7_0) rfl rfl rfl ?_
  refine o_getF W0 (w25 hw) Via.refl z1 4 (hb hy d7_1) rfl ?_
  intro T1 W1
  refine o_len W1 z2 5 (hb hy d7_4) rfl <| o_aloadN W1 6 (hb hy d7_5) rfl rfl rfl ?_
  refine o_virtualC W1 (w43 hw) (w44 hw) (o_nf W1 rfl (w46 hw)) (w46 hw) (w45 hw) (by decide) z3 (w47 hw) (w8 hw) (rm12 l hw gCS a1 h0 W1.old SgCS NgCS z4) 1 0 0 (by decide) (by rw [hml]; rfl) (lenOf pd8 rfl) [(.int 128)] rfl rfl 9 (hb hy d7_6) rfl rfl rfl all0 tri ?_
  intro v2 T2 h2 lo2 W2 K2 q2
  obtain rfl := q2.2.2
  show Gl _ _ _ _ _ _ _ _ [iZ, (.int 128)]
  refine o_ishr W2 (v := 128) 10 (hb hy d7_9) (by decide) rfl ?_
  exact o_retI W2 hlk hret (hb hy d7_10) (by decide) (by decide) rfl
theorem rm214 (l : Launch) {Z a0} (hw : HW Z a0) (x1 : Int32) (h0 : Heap) (O0 : Old Z Z.heap.size h0) (hc1 : ¬ (x1 < (0 : Int32))) (hc2 : x1 < (128 : Int32)) :
    CtrN l Z mn13 jdk_41_method_11_code 3 (some .int) [] (⟨0, 0, 0, 0⟩ : Room) #[(.int x1), (.int 128), .null] h0 [] (fun v h => v = some (.int x1)) := by
  refine CtrN.intro (L0 := #[vi x1, vi 128, .val .null]) (plainFor_of_name pn4) O0 (own_entry rfl) ?_
  intro p e s m below meth c T0 hy hml hret hlk hnm W0
  refine o_iloadN W0 1 (hb hy d13_0) rfl rfl <| o_ifN W0 4 (hb hy d13_1) (XT.i0_lt_f hc1) rfl <| o_iloadN W0 5 (hb hy d13_4) rfl rfl <| o_iloadN W0 6 (hb hy d13_5) rfl rfl <| o_icmpY W0 16 (hb hy d13_6) (XT.ii_lt_t hc2) (by decide) rfl <| o_iloadN W0 17 (hb hy d13_16) rfl rfl ?_
  exact o_retI W0 hlk hret (hb hy d13_17) (by decide) (by decide) rfl
theorem rm215 (l : Launch) {Z a0} (hw : HW Z a0) (x1 : Int32) (a1 : Addr) (h0 : Heap) (O0 : Old Z Z.heap.size h0) (hc1 : ¬ (x1 < (0 : Int32))) (hc2 : x1 < (128 : Int32)) :
    CtrN l Z mn13 jdk_41_method_11_code 3 (some .int) [] (⟨0, 0, 0, 0⟩ : Room) #[(.int x1), (.int 128), (.ref a1)] h0 [] (fun v h => v = some (.int x1)) := by
  refine CtrN.intro (L0 := #[vi x1, vi 128, vr a1]) (plainFor_of_name pn4) O0 (own_entry rfl) ?_
  intro p e s m below meth c T0 hy hml hret hlk hnm W0
  refine o_iloadN W0 1 (hb hy d13_0) rfl rfl <| o_ifN W0 4 (hb hy d13_1) (XT.i0_lt_f hc1) rfl <| o_iloadN W0 5 (hb hy d13_4) rfl rfl <| o_iloadN W0 6 (hb hy d13_5) rfl rfl <| o_icmpY W0 16 (hb hy d13_6) (XT.ii_lt_t hc2) (by decide) rfl <| o_iloadN W0 17 (hb hy d13_16) rfl rfl ?_
  exact o_retI W0 hlk hret (hb hy d13_17) (by decide) (by decide) rfl
theorem rm216 (l : Launch) {Z a0} (hw : HW Z a0) (gF : Value) (x1 : Int32) (h0 : Heap) (O0 : Old Z Z.heap.size h0) (SgF : Sta Z Z.heap s2 s3 s4 gF) (NgF : gF.isRef = true) (hc3 : ¬ (x1 < (0 : Int32))) (hc4 : x1 < (128 : Int32)) :
    CtrN l Z mn14 jdk_42_method_155_code 2 none [] (⟨1, 0, 0, 14⟩ : Room) #[(.int x1), (.int 128)] h0 [] (fun v h => v = none) := by
  refine CtrN.intro (L0 := #[vi x1, vi 128]) (plainFor_of_name pn1) O0 (own_entry rfl) ?_
  intro p e s m below meth c T0 hy hml hret hlk hnm W0
  refine o_iloadN W0 1 (hb hy d12_0) rfl rfl <| o_iloadN W0 2 (hb hy d12_1) rfl rfl ?_
  rcases ref_cases NgF with rfl | ⟨aF1, rfl⟩
  · refine o_getS W0 (w66 hw) Via.refl (SgF.ext W0.ox) 5 (hb hy d12_2) rfl ?_
    intro T2 W2
    refine o_staticC W2 (w68 hw) (w69 hw) (w67 hw) (w70 hw) (by decide) (rm214 l hw x1 h0 W2.old hc3 hc4) 0 0 0 (by decide) (by rw [hml]; rfl) (lenOf pd9 rfl) [] rfl rfl 8 (hb hy d12_5) rfl rfl rfl all0 tri ?_
    intro v5 T5 h5 lo5 W5 K5 q5
    obtain rfl := q5.2.2
    show Gl _ _ _ _ _ _ _ _ [(.int x1)]
    refine o_pop W5 9 (hb hy d12_8) rfl rfl ?_
    exact o_ret0 W5 hlk hret (hb hy d12_9) (by decide) (by decide) rfl
  · refine o_getS W0 (w66 hw) Via.refl (SgF.ext W0.ox) 5 (hb hy d12_2) rfl ?_
    intro T6 W6
    refine o_staticC W6 (w68 hw) (w69 hw) (w67 hw) (w70 hw) (by decide) (rm215 l hw x1 aF1 h0 W6.old hc3 hc4) 0 0 0 (by decide) (by rw [hml]; rfl) (lenOf pd9 rfl) [] rfl rfl 8 (hb hy d12_5) rfl rfl rfl all0 tri ?_
    intro v7 T7 h7 lo7 W7 K7 q7
    obtain rfl := q7.2.2
    show Gl _ _ _ _ _ _ _ _ [(.int x1)]
    refine o_pop W7 9 (hb hy d12_8) rfl rfl ?_
    exact o_ret0 W7 hlk hret (hb hy d12_9) (by decide) (by decide) rfl
theorem rm217 (l : Launch) {Z a0} (hw : HW Z a0) (gF : Value) (a1 : Addr) (x1 : Int32) (z0 : ClassId) (h0 : Heap) (O0 : Old Z Z.heap.size h0) (z1 : Arv Z h0 a1 z0 .byte 128 own_lit128 iZ) (SgF : Sta Z Z.heap s2 s3 s4 gF) (NgF : gF.isRef = true) (hc1 : ¬ (x1 < (0 : Int32))) (hc2 : x1 < (128 : Int32)) :
    CtrN l Z mn15 jdk_43_method_2_code 2 (some .char) [] (⟨2, 0, 0, 27⟩ : Room) #[(.ref a1), (.int x1)] h0 [] (fun v h => v = some (.int ((own_lat128 x1.toNatClampNeg) &&& 255))) := by
  refine CtrN.intro (L0 := #[vr a1, vi x1]) (plainFor_of_name pn5) O0 (own_entry rfl) ?_
  intro p e s m below meth c T0 hy hml hret hlk hnm W0
  refine o_iloadN W0 1 (hb hy d11_0) rfl rfl <| o_aloadN W0 2 (hb hy d11_1) rfl rfl rfl <| o_len W0 z1 3 (hb hy d11_2) rfl ?_
  refine o_staticC W0 (w63 hw) (w64 hw) (w8 hw) (w65 hw) (by decide) (rm216 l hw gF x1 h0 W0.old SgF NgF hc1 hc2) 0 0 0 (by decide) (by rw [hml]; rfl) (lenOf pd10 rfl) [] rfl rfl 6 (hb hy d11_3) rfl rfl rfl all0 tri ?_
  intro v3 T3 h3 lo3 W3 K3 q3
  obtain rfl := q3.2.2
  show Gl _ _ _ _ _ _ _ _ []
  refine o_aloadN W3 7 (hb hy d11_6) rfl rfl rfl <| o_iloadN W3 8 (hb hy d11_7) rfl rfl ?_
  have c4 := (z1.keep K3 nin0)
  refine o_baload W3 c4 (x := (own_lat128 x1.toNatClampNeg)) (i := x1.toNatClampNeg) rfl hc1 (own_idx hc1 hc2) (own_lat128_at _) 9 (hb hy d11_8) rfl <| o_sipush W3 (v := 255) 12 (hb hy d11_9) (by decide) rfl <| o_iand W3 (v := ((own_lat128 x1.toNatClampNeg) &&& 255)) 13 (hb hy d11_12) rfl rfl <| o_i2c W3 (v := ((own_lat128 x1.toNatClampNeg) &&& 255)) 14 (hb hy d11_13) (own_i2c (own_b255 _)) rfl ?_
  exact o_retN W3 hlk (t := .char) hret (by simp) (z' := ((own_lat128 x1.toNatClampNeg) &&& 255)) (own_i2c (own_b255 _)) (hb hy d11_14) (by decide) (by decide) rfl
theorem rm218 (l : Launch) {Z a0} (hw : HW Z a0) (gCS : Int32) (gF : Value) (a1 : Addr) (x1 : Int32) (a2 : Addr) (z0 : ClassId) (h0 : Heap) (O0 : Old Z Z.heap.size h0) (z1 : Exa Z h0 a1 s0) (SgCS : Sta Z Z.heap s0 s8 "Z" (.int gCS)) (NgCS : ¬ (gCS = (0 : Int32))) (z2 : Fld Z h0 a1 s0 "coder" "B" iZ) (z3 : Fld Z h0 a1 s0 "value" "[B" (.ref a2)) (z4 : Arv Z h0 a2 z0 .byte 128 own_lit128 iZ) (SgF : Sta Z Z.heap s2 s3 s4 gF) (NgF : gF.isRef = true) (hc5 : ¬ (x1 < (0 : Int32))) (hc6 : x1 < (128 : Int32)) :
    CtrN l Z mn2 jdk_42_method_56_code 2 (some .char) [] (⟨5, 0, 0, 70⟩ : Room) #[(.ref a1), (.int x1)] h0 [] (fun v h => v = some (.int ((own_lat128 x1.toNatClampNeg) &&& 255))) := by
  refine CtrN.intro (L0 := #[vr a1, vi x1]) (plainFor_of_name pn1) O0 (own_entry rfl) ?_
  intro p e s m below meth c T0 hy hml hret hlk hnm W0
  refine o_aloadN W0 1 (hb hy d9_0) rfl rfl rfl ?_
  refine o_virtualC W0 (w54 hw) (w55 hw) (o_nf W0 rfl (w57 hw)) (w57 hw) (w56 hw) (by decide) z1 (w58 hw) (w8 hw) (rm14 l hw gCS a1 h0 W0.old SgCS NgCS z2) 0 0 0 (by decide) (by rw [hml]; rfl) (lenOf pd3 rfl) [] rfl rfl 4 (hb hy d9_1) rfl rfl rfl all0 tri ?_
  intro v1 T1 h1 lo1 W1 K1 q1
  obtain rfl := q1.2.2
  show Gl _ _ _ _ _ _ _ _ [(.int 1)]
  refine o_ifN W1 7 (hb hy d9_4) (XT.i0_eq_f (by decide)) rfl <| o_aloadN W1 8 (hb hy d9_7) rfl rfl rfl ?_
  have c2 := (z3.keep K1 nin0)
  refine o_getF W1 (w25 hw) Via.refl c2 11 (hb hy d9_8) rfl ?_
  intro T3 W3
  refine o_iloadN W3 12 (hb hy d9_11) rfl rfl ?_
  have c4 := (z4.keep K1 nin0)
  refine o_staticC W3 (w59 hw) (w60 hw) (w61 hw) (w62 hw) (by decide) (rm217 l hw gF a2 x1 z0 h1 W3.old c4 SgF NgF hc5 hc6) 0 0 0 (by decide) (by rw [hml]; rfl) (lenOf pd11 rfl) [] rfl rfl 15 (hb hy d9_12) rfl rfl rfl all0 tri ?_
  intro v7 T7 h7 lo7 W7 K7 q7
  obtain rfl := q7.2.2
  show Gl _ _ _ _ _ _ _ _ [(.int ((own_lat128 x1.toNatClampNeg) &&& 255))]
  exact o_retN W7 hlk (t := .char) hret (by simp) (z' := ((own_lat128 x1.toNatClampNeg) &&& 255)) (own_i2c (own_b255 _)) (hb hy d9_15) (by decide) (by decide) rfl
theorem rm219 (l : Launch) {Z a0} (hw : HW Z a0) (gCS : Int32) (gF : Value) (a1 a2 : Addr) (z0 : ClassId) (h0 : Heap) (O0 : Old Z Z.heap.size h0) (z1 : Exa Z h0 a1 s0) (z2 : Fld Z h0 a1 s0 "value" "[B" (.ref a2)) (z3 : Arv Z h0 a2 z0 .byte 128 own_lit128 iZ) (SgCS : Sta Z Z.heap s0 s8 "Z" (.int gCS)) (NgCS : ¬ (gCS = (0 : Int32))) (z4 : Fld Z h0 a1 s0 "coder" "B" iZ) (SgF : Sta Z Z.heap s2 s3 s4 gF) (NgF : gF.isRef = true) :
    CtrN l Z mn7 prog_6_method_2_code 4 (some .boolean) [] (⟨6, 0, 0, 83⟩ : Room) #[(.ref a1)] h0 [] (fun v h => v = some (.int 1)) := by
  refine CtrN.intro (L0 := #[vr a1, un, un, un]) (plainFor_of_name pn2) O0 (own_entry rfl) ?_
  intro p e s m below meth c T0 hy hml hret hlk hnm W0
  refine o_aloadN W0 1 (hb hy d5_0) rfl rfl rfl ?_
  refine o_ifnullN W0 4 (hb hy d5_1) rfl ?_
  refine o_aloadN W0 5 (hb hy d5_4) rfl rfl rfl ?_
  refine o_virtualC W0 (w31 hw) (w32 hw) (o_nf W0 rfl (w34 hw)) (w34 hw) (w33 hw) (by decide) z1 (w35 hw) (w8 hw) (rm212 l hw a1 a2 z0 h0 W0.old z2 z3) 0 0 0 (by decide) (by rw [hml]; rfl) (lenOf pd3 rfl) [] rfl rfl 8 (hb hy d5_5) rfl rfl rfl all0 tri ?_
  intro v1 T1 h1 lo1 W1 K1 q1
  obtain rfl := q1.2.2
  show Gl _ _ _ _ _ _ _ _ [iZ]
  refine o_ifN W1 11 (hb hy d5_8) (XT.i0_ne_f (by decide)) rfl <| o_aloadN W1 12 (hb hy d5_11) rfl rfl rfl ?_
  have c2 := (z2.keep K1 nin0)
  have c3 := (z3.keep K1 nin0)
  have c4 := (z4.keep K1 nin0)
  have c5 := (z1.keep K1)
  refine o_virtualC W1 (w38 hw) (w39 hw) (o_nf W1 rfl (w41 hw)) (w41 hw) (w40 hw) (by decide) c5 (w42 hw) (w8 hw) (rm213 l hw gCS a1 a2 z0 h1 W1.old c2 c3 c5 SgCS NgCS c4) 0 0 0 (by decide) (by rw [hml]; rfl) (lenOf pd17 rfl) [] rfl rfl 15 (hb hy d5_12) rfl rfl rfl all0 tri ?_
  intro v6 T6 h6 lo6 W6 K6 q6
  obtain rfl := q6.2.2
  show Gl _ _ _ _ _ _ _ _ [(.int 128)]
  refine o_sipush W6 (v := 128) 18 (hb hy d5_15) (by decide) rfl <| o_icmpY W6 23 (hb hy d5_18) (XT.ii_le_t (by decide)) (by decide) rfl <| o_iconst W6 (v := 1) 24 (hb hy d5_23) rfl rfl <| o_istoreN W6 (L' := #[vr a1, vi 1, un, un]) 25 (hb hy d5_24) rfl rfl <| o_iconst W6 (v := 0) 26 (hb hy d5_25) rfl rfl <| o_istoreN W6 (L' := #[vr a1, vi 1, vi 0, un]) 27 (hb hy d5_26) rfl rfl ?_
  have c7 := (c5.keep K6)
  have c8 := (c4.keep K6 nin0)
  have c9 := (c2.keep K6 nin0)
  have c10 := (c3.keep K6 nin0)
  refine o_loop W6 (fun n i s3 h => (i.toNatClampNeg + n = 128 ∧ ¬ i < 0) ∧ (s3 = .unset ∨ ∃ x : Int32, s3 = .val (.int x)) ∧ Exa Z h a1 s0 ∧ Fld Z h a1 s0 "coder" "B" iZ ∧ Fld Z h a1 s0 "value" "[B" (.ref a2) ∧ Arv Z h a2 z0 .byte 128 own_lit128 iZ) 27 (fun i s3 => #[.val (.ref a1), .val (.int 1), .val (.int i), s3]) (0 : Int32) .unset 128 ⟨⟨by decide, by decide⟩, Or.inl rfl, c7, c8, c9, c10⟩ ?_ ?_
  · intro iq0 s3q0 Tq0 hq0 loq0 Wq0 qcq0
    obtain ⟨hiq0, hsq0, Eq0, Fcq0, Fvq0, Aq0⟩ := qcq0
    have hlq0 := own_t0 hiq0.1
    show Gl _ _ _ _ _ _ _ #[.val (.ref a1), .val (.int 1), .val (.int iq0), s3q0] []
    refine o_iloadN Wq0 28 (hb hy d5_27) rfl rfl <| o_aloadN Wq0 29 (hb hy d5_28) rfl rfl rfl ?_
    refine o_virtualC Wq0 (w38 hw) (w39 hw) (o_nf Wq0 rfl (w41 hw)) (w41 hw) (w40 hw) (by decide) Eq0 (w42 hw) (w8 hw) (rm213 l hw gCS a1 a2 z0 hq0 Wq0.old Fvq0 Aq0 Eq0 SgCS NgCS Fcq0) 1 0 0 (by decide) (by rw [hml]; rfl) (lenOf pd17 rfl) [(.int iq0)] rfl rfl 32 (hb hy d5_29) rfl rfl rfl all0 tri ?_
    intro v11 T11 h11 lo11 W11 K11 q11
    obtain rfl := q11.2.2
    show Gl _ _ _ _ _ _ _ _ [(.int 128), (.int iq0)]
    refine o_icmpY W11 111 (hb hy d5_32) (XT.ii_ge_t hlq0) (by decide) rfl <| o_iloadN W11 112 (hb hy d5_111) rfl rfl ?_
    exact o_retN W11 hlk (t := .boolean) hret (by simp) (z' := (1 : Int32)) (by decide) (hb hy d5_112) (by decide) (by decide) rfl
  · intro nn ih iq1 s3q1 Tq1 hq1 loq1 Wq1 qcq1
    obtain ⟨hiq1, hsq1, Eq1, Fcq1, Fvq1, Aq1⟩ := qcq1
    have hlq1 := own_t1 hiq1.1
    rcases hsq1 with rfl | ⟨x3q1, rfl⟩
    · show Gl _ _ _ _ _ _ _ #[.val (.ref a1), .val (.int 1), .val (.int iq1), .unset] []
      refine o_iloadN Wq1 28 (hb hy d5_27) rfl rfl <| o_aloadN Wq1 29 (hb hy d5_28) rfl rfl rfl ?_
      refine o_virtualC Wq1 (w38 hw) (w39 hw) (o_nf Wq1 rfl (w41 hw)) (w41 hw) (w40 hw) (by decide) Eq1 (w42 hw) (w8 hw) (rm213 l hw gCS a1 a2 z0 hq1 Wq1.old Fvq1 Aq1 Eq1 SgCS NgCS Fcq1) 1 0 0 (by decide) (by rw [hml]; rfl) (lenOf pd17 rfl) [(.int iq1)] rfl rfl 32 (hb hy d5_29) rfl rfl rfl all0 tri ?_
      intro v12 T12 h12 lo12 W12 K12 q12
      obtain rfl := q12.2.2
      show Gl _ _ _ _ _ _ _ _ [(.int 128), (.int iq1)]
      refine o_icmpN W12 35 (hb hy d5_32) (XT.ii_ge_f hlq1) rfl <| o_iloadN W12 36 (hb hy d5_35) rfl rfl <| o_ifN W12 39 (hb hy d5_36) (XT.i0_eq_f (by decide)) rfl <| o_aloadN W12 40 (hb hy d5_39) rfl rfl rfl <| o_iloadN W12 41 (hb hy d5_40) rfl rfl ?_
      have c13 := (Fcq1.keep K12 nin0)
      have c14 := (Fvq1.keep K12 nin0)
      have c15 := (Aq1.keep K12 nin0)
      have c16 := (Eq1.keep K12)
      refine o_virtualC W12 (w49 hw) (w50 hw) (o_nf W12 rfl (w52 hw)) (w52 hw) (w51 hw) (by decide) c16 (w53 hw) (w8 hw) (rm218 l hw gCS gF a1 iq1 a2 z0 h12 W12.old c16 SgCS NgCS c13 c14 c15 SgF NgF hiq1.2 hlq1) 0 0 0 (by decide) (by rw [hml]; rfl) (lenOf pd18 rfl) [] rfl rfl 44 (hb hy d5_41) rfl rfl rfl all0 tri ?_
      intro v17 T17 h17 lo17 W17 K17 q17
      obtain rfl := q17.2.2
      show Gl _ _ _ _ _ _ _ _ [(.int ((own_lat128 iq1.toNatClampNeg) &&& 255))]
      refine o_istoreN W17 (L' := #[vr a1, vi 1, vi iq1, vi ((own_lat128 iq1.toNatClampNeg) &&& 255)]) 45 (hb hy d5_44) rfl rfl ?_
      refine own_tst W17 hy ?_
      rw [own_ok1 (own_litne hlq1 hiq1.2)]
      refine o_istoreN W17 (L' := #[vr a1, vi 1, vi iq1, vi ((own_lat128 iq1.toNatClampNeg) &&& 255)]) 105 (hb hy d5_104) rfl rfl <| o_iinc W17 (v := (iq1 + 1)) (L' := #[vr a1, vi 1, vi (iq1 + 1), vi ((own_lat128 iq1.toNatClampNeg) &&& 255)]) 108 (hb hy d5_105) rfl rfl rfl rfl <| o_goto W17 27 (hb hy d5_108) (by decide) rfl ?_
      have c18 := (c16.keep K17)
      have c19 := (c13.keep K17 nin0)
      have c20 := (c14.keep K17 nin0)
      have c21 := (c15.keep K17 nin0)
      exact ih _ _ _ _ _ W17 ⟨own_t2 hiq1.1 hiq1.2, Or.inr ⟨_, rfl⟩, c18, c19, c20, c21⟩
    · show Gl _ _ _ _ _ _ _ #[.val (.ref a1), .val (.int 1), .val (.int iq1), .val (.int x3q1)] []
      refine o_iloadN Wq1 28 (hb hy d5_27) rfl rfl <| o_aloadN Wq1 29 (hb hy d5_28) rfl rfl rfl ?_
      refine o_virtualC Wq1 (w38 hw) (w39 hw) (o_nf Wq1 rfl (w41 hw)) (w41 hw) (w40 hw) (by decide) Eq1 (w42 hw) (w8 hw) (rm213 l hw gCS a1 a2 z0 hq1 Wq1.old Fvq1 Aq1 Eq1 SgCS NgCS Fcq1) 1 0 0 (by decide) (by rw [hml]; rfl) (lenOf pd17 rfl) [(.int iq1)] rfl rfl 32 (hb hy d5_29) rfl rfl rfl all0 tri ?_
      intro v22 T22 h22 lo22 W22 K22 q22
      obtain rfl := q22.2.2
      show Gl _ _ _ _ _ _ _ _ [(.int 128), (.int iq1)]
      refine o_icmpN W22 35 (hb hy d5_32) (XT.ii_ge_f hlq1) rfl <| o_iloadN W22 36 (hb hy d5_35) rfl rfl <| o_ifN W22 39 (hb hy d5_36) (XT.i0_eq_f (by decide)) rfl <| o_aloadN W22 40 (hb hy d5_39) rfl rfl rfl <| o_iloadN W22 41 (hb hy d5_40) rfl rfl ?_
      have c23 := (Fcq1.keep K22 nin0)
      have c24 := (Fvq1.keep K22 nin0)
      have c25 := (Aq1.keep K22 nin0)
      have c26 := (Eq1.keep K22)
      refine o_virtualC W22 (w49 hw) (w50 hw) (o_nf W22 rfl (w52 hw)) (w52 hw) (w51 hw) (by decide) c26 (w53 hw) (w8 hw) (rm218 l hw gCS gF a1 iq1 a2 z0 h22 W22.old c26 SgCS NgCS c23 c24 c25 SgF NgF hiq1.2 hlq1) 0 0 0 (by decide) (by rw [hml]; rfl) (lenOf pd18 rfl) [] rfl rfl 44 (hb hy d5_41) rfl rfl rfl all0 tri ?_
      intro v27 T27 h27 lo27 W27 K27 q27
      obtain rfl := q27.2.2
      show Gl _ _ _ _ _ _ _ _ [(.int ((own_lat128 iq1.toNatClampNeg) &&& 255))]
      refine o_istoreN W27 (L' := #[vr a1, vi 1, vi iq1, vi ((own_lat128 iq1.toNatClampNeg) &&& 255)]) 45 (hb hy d5_44) rfl rfl ?_
      refine own_tst W27 hy ?_
      rw [own_ok1 (own_litne hlq1 hiq1.2)]
      refine o_istoreN W27 (L' := #[vr a1, vi 1, vi iq1, vi ((own_lat128 iq1.toNatClampNeg) &&& 255)]) 105 (hb hy d5_104) rfl rfl <| o_iinc W27 (v := (iq1 + 1)) (L' := #[vr a1, vi 1, vi (iq1 + 1), vi ((own_lat128 iq1.toNatClampNeg) &&& 255)]) 108 (hb hy d5_105) rfl rfl rfl rfl <| o_goto W27 27 (hb hy d5_108) (by decide) rfl ?_
      have c28 := (c26.keep K27)
      have c29 := (c23.keep K27 nin0)
      have c30 := (c24.keep K27 nin0)
      have c31 := (c25.keep K27 nin0)
      exact ih _ _ _ _ _ W27 ⟨own_t2 hiq1.1 hiq1.2, Or.inr ⟨_, rfl⟩, c28, c29, c30, c31⟩
theorem rm220 (l : Launch) {Z a0} (hw : HW Z a0) (a1 a2 : Addr) (z0 : ClassId) (h0 : Heap) (O0 : Old Z Z.heap.size h0) (z1 : Fld Z h0 a1 s0 "value" "[B" (.ref a2)) (z2 : Arv Z h0 a2 z0 .byte 129 own_lit129 iZ) :
    CtrN l Z mn0 jdk_42_method_55_code 1 (some .boolean) [] (⟨0, 0, 0, 0⟩ : Room) #[(.ref a1)] h0 [] (fun v h => v = some iZ) := by
  refine CtrN.intro (L0 := #[vr a1]) (plainFor_of_name pn1) O0 (own_entry rfl) ?_
  intro p e s m below meth c T0 hy hml hret hlk hnm W0
  refine o_aloadN W0 1 (hb hy d6_0) rfl rfl rfl ?_
  refine o_getF W0 (w25 hw) Via.refl z1 4 (hb hy d6_1) rfl ?_
  intro T1 W1
  refine o_len W1 z2 5 (hb hy d6_4) rfl <| o_ifY W1 12 (hb hy d6_5) (XT.i0_ne_t (by decide)) (by decide) rfl <| o_iconst W1 (v := 0) 13 (hb hy d6_12) rfl rfl ?_
  exact o_retN W1 hlk (t := .boolean) hret (by simp) (z' := (0 : Int32)) (by decide) (hb hy d6_13) (by decide) (by decide) rfl
theorem rm221 (l : Launch) {Z a0} (hw : HW Z a0) (gCS : Int32) (a1 a2 : Addr) (z0 : ClassId) (h0 : Heap) (O0 : Old Z Z.heap.size h0) (z1 : Fld Z h0 a1 s0 "value" "[B" (.ref a2)) (z2 : Arv Z h0 a2 z0 .byte 129 own_lit129 iZ) (z3 : Exa Z h0 a1 s0) (SgCS : Sta Z Z.heap s0 s8 "Z" (.int gCS)) (NgCS : ¬ (gCS = (0 : Int32))) (z4 : Fld Z h0 a1 s0 "coder" "B" iZ) :
    CtrN l Z mn1 jdk_42_method_54_code 1 (some .int) [] (⟨1, 0, 0, 14⟩ : Room) #[(.ref a1)] h0 [] (fun v h => v = some (.int 129)) := by
  refine CtrN.intro (L0 := #[vr a1]) (plainFor_of_name pn1) O0 (own_entry rfl) ?_
  intro p e s m below meth c T0 hy hml hret hlk hnm W0
  refine o_aloadN W0 1 (hb hy d7_0) rfl rfl rfl ?_
  refine o_getF W0 (w25 hw) Via.refl z1 4 (hb hy d7_1) rfl ?_
  intro T1 W1
  refine o_len W1 z2 5 (hb hy d7_4) rfl <| o_aloadN W1 6 (hb hy d7_5) rfl rfl rfl ?_
  refine o_virtualC W1 (w43 hw) (w44 hw) (o_nf W1 rfl (w46 hw)) (w46 hw) (w45 hw) (by decide) z3 (w47 hw) (w8 hw) (rm12 l hw gCS a1 h0 W1.old SgCS NgCS z4) 1 0 0 (by decide) (by rw [hml]; rfl) (lenOf pd8 rfl) [(.int 129)] rfl rfl 9 (hb hy d7_6) rfl rfl rfl all0 tri ?_
  intro v2 T2 h2 lo2 W2 K2 q2
  obtain rfl := q2.2.2
  show Gl _ _ _ _ _ _ _ _ [iZ, (.int 129)]
  refine o_ishr W2 (v := 129) 10 (hb hy d7_9) (by decide) rfl ?_
  exact o_retI W2 hlk hret (hb hy d7_10) (by decide) (by decide) rfl
theorem rm222 (l : Launch) {Z a0} (hw : HW Z a0) (gCS : Int32) (a1 a2 : Addr) (z0 : ClassId) (h0 : Heap) (O0 : Old Z Z.heap.size h0) (z1 : Exa Z h0 a1 s0) (z2 : Fld Z h0 a1 s0 "value" "[B" (.ref a2)) (z3 : Arv Z h0 a2 z0 .byte 129 own_lit129 iZ) (SgCS : Sta Z Z.heap s0 s8 "Z" (.int gCS)) (NgCS : ¬ (gCS = (0 : Int32))) (z4 : Fld Z h0 a1 s0 "coder" "B" iZ) :
    CtrN l Z mn7 prog_6_method_2_code 4 (some .boolean) [] (⟨2, 0, 0, 26⟩ : Room) #[(.ref a1)] h0 [] (fun v h => v = some iZ) := by
  refine CtrN.intro (L0 := #[vr a1, un, un, un]) (plainFor_of_name pn2) O0 (own_entry rfl) ?_
  intro p e s m below meth c T0 hy hml hret hlk hnm W0
  refine o_aloadN W0 1 (hb hy d5_0) rfl rfl rfl ?_
  refine o_ifnullN W0 4 (hb hy d5_1) rfl ?_
  refine o_aloadN W0 5 (hb hy d5_4) rfl rfl rfl ?_
  refine o_virtualC W0 (w31 hw) (w32 hw) (o_nf W0 rfl (w34 hw)) (w34 hw) (w33 hw) (by decide) z1 (w35 hw) (w8 hw) (rm220 l hw a1 a2 z0 h0 W0.old z2 z3) 0 0 0 (by decide) (by rw [hml]; rfl) (lenOf pd3 rfl) [] rfl rfl 8 (hb hy d5_5) rfl rfl rfl all0 tri ?_
  intro v1 T1 h1 lo1 W1 K1 q1
  obtain rfl := q1.2.2
  show Gl _ _ _ _ _ _ _ _ [iZ]
  refine o_ifN W1 11 (hb hy d5_8) (XT.i0_ne_f (by decide)) rfl <| o_aloadN W1 12 (hb hy d5_11) rfl rfl rfl ?_
  have c2 := (z2.keep K1 nin0)
  have c3 := (z3.keep K1 nin0)
  have c4 := (z4.keep K1 nin0)
  have c5 := (z1.keep K1)
  refine o_virtualC W1 (w38 hw) (w39 hw) (o_nf W1 rfl (w41 hw)) (w41 hw) (w40 hw) (by decide) c5 (w42 hw) (w8 hw) (rm221 l hw gCS a1 a2 z0 h1 W1.old c2 c3 c5 SgCS NgCS c4) 0 0 0 (by decide) (by rw [hml]; rfl) (lenOf pd17 rfl) [] rfl rfl 15 (hb hy d5_12) rfl rfl rfl all0 tri ?_
  intro v6 T6 h6 lo6 W6 K6 q6
  obtain rfl := q6.2.2
  show Gl _ _ _ _ _ _ _ _ [(.int 129)]
  refine o_sipush W6 (v := 128) 18 (hb hy d5_15) (by decide) rfl <| o_icmpN W6 21 (hb hy d5_18) (XT.ii_le_f (by decide)) rfl <| o_iconst W6 (v := 0) 22 (hb hy d5_21) rfl rfl ?_
  exact o_retN W6 hlk (t := .boolean) hret (by simp) (z' := (0 : Int32)) (by decide) (hb hy d5_22) (by decide) (by decide) rfl
theorem rm_law (l : Launch) {Z a0} (hw : HW Z a0) (gCS : Int32) (gF : Value) (p0 p1 p2 p3 p4 : Int32) (h0 : Heap) (O0 : Old Z Z.heap.size h0) (SgCS : Sta Z Z.heap s0 s8 "Z" (.int gCS)) (NgCS : ¬ (gCS = (0 : Int32))) (SgF : Sta Z Z.heap s2 s3 s4 gF) (NgF : gF.isRef = true) (z0 : Sta Z Z.heap s1 s5 "Z" (.int 1)) (z1 : Sta Z Z.heap s1 s6 "I" iZ) (z2 : Sta Z Z.heap s1 s7 "I" (.int 8)) :
    CtrW l Z consts_1 x code maxLocals ret tables_1 room_1 #[(.int p0), (.int p1), (.int p2), (.int p3), (.int p4)] h0 [] (fun v _ => v = some (.int 1)) := by
  refine CtrW.intro (L0 := #[vi p0, vi p1, vi p2, vi p3, vi p4, un, un, un, un, un, un, un, un, un, un, un, un, un, un, un, un, un]) (plainFor_of_name pn0) O0 (own_entry rfl) ?_
  intro p e s m below meth c T0 V0 hy hml hret hlk hnm W0
  refine o_iloadN W0 1 (hb hy at_0) rfl rfl <| o_ldcI W0 (w0 hw) 3 (hb hy at_1) rfl <| o_iand W0 (v := (p0 &&& 2147483647)) 4 (hb hy at_3) rfl rfl <| o_iconst W0 (v := 5) 5 (hb hy at_4) rfl rfl ?_
  refine o_irem W0 (v := ((p0 &&& 2147483647) % (5 : Int32))) 6 (hb hy at_5) (by decide) rfl rfl ?_
  refine o_istore W0 (L' := #[vi p0, vi p1, vi p2, vi p3, vi p4, vi ((p0 &&& 2147483647) % (5 : Int32)), un, un, un, un, un, un, un, un, un, un, un, un, un, un, un, un]) 8 (hb hy at_6) rfl rfl <| o_iloadN W0 9 (hb hy at_8) rfl rfl ?_
  refine o_merge (α := Int32) (fun v => own_01 v) 17 (fun v => #[.val (.int p0), .val (.int p1), .val (.int p2), .val (.int p3), .val (.int p4), .val (.int ((p0 &&& 2147483647) % (5 : Int32))), .unset, .unset, .unset, .unset, .unset, .unset, .unset, .unset, .unset, .unset, .unset, .unset, .unset, .unset, .unset, .unset]) (fun v => [(.int v)]) (fun M1 => ?_) (fun v hm2 => ?_)
  · rcases (Classical.em (p0 < (0 : Int32))).symm with hf3 | hf3
    · refine o_ifY W0 16 (hb hy at_9) (XT.i0_ge_t hf3) (by decide) rfl <| o_iconst W0 (v := 0) 17 (hb hy at_16) rfl rfl ?_
      exact M1 (0 : Int32) (by unfold own_01; decide)
    · refine o_ifN W0 12 (hb hy at_9) (XT.i0_ge_f hf3) rfl <| o_iconst W0 (v := 1) 13 (hb hy at_12) rfl rfl <| o_goto W0 17 (hb hy at_13) (by decide) rfl ?_
      exact M1 (1 : Int32) (by unfold own_01; decide)
  obtain ⟨fl, hqhm2⟩ : ∃ z, z = v := ⟨_, rfl⟩
  subst hqhm2
  have hm2 : own_01 fl := hm2
  show Gl _ _ _ _ _ _ _ #[.val (.int p0), .val (.int p1), .val (.int p2), .val (.int p3), .val (.int p4), .val (.int ((p0 &&& 2147483647) % (5 : Int32))), .unset, .unset, .unset, .unset, .unset, .unset, .unset, .unset, .unset, .unset, .unset, .unset, .unset, .unset, .unset, .unset] [(.int fl)]
  refine o_istore W0 (L' := #[vi p0, vi p1, vi p2, vi p3, vi p4, vi ((p0 &&& 2147483647) % (5 : Int32)), vi fl, un, un, un, un, un, un, un, un, un, un, un, un, un, un, un]) 19 (hb hy at_17) rfl rfl <| o_iloadN W0 20 (hb hy at_19) rfl rfl <| o_iload W0 22 (hb hy at_20) rfl rfl ?_
  refine o_staticC W0 (w1 hw) (w2 hw) (w3 hw) (w4 hw) (by decide) (rm2 l hw p1 fl h0 W0.old ) 0 0 0 (by decide) (by rw [hml]; rfl) (lenOf pd0 rfl) [] rfl rfl 25 (hb hy at_22) rfl rfl rfl all0 (fun _ K => IW.keep K sf0 W0.inv) ?_
  intro v4 T4 h4 lo4 W4 K4 q4
  obtain ⟨r1_4, P4_0, rfl⟩ := q4.2.2
  show Gl _ _ _ _ _ _ _ _ [(.int r1_4)]
  refine o_istore W4 (L' := #[vi p0, vi p1, vi p2, vi p3, vi p4, vi ((p0 &&& 2147483647) % (5 : Int32)), vi fl, vi r1_4, un, un, un, un, un, un, un, un, un, un, un, un, un, un]) 27 (hb hy at_25) rfl rfl <| o_iloadN W4 28 (hb hy at_27) rfl rfl <| o_iload W4 30 (hb hy at_28) rfl rfl ?_
  refine o_staticC W4 (w1 hw) (w2 hw) (w3 hw) (w4 hw) (by decide) (rm2 l hw p2 fl h4 W4.old ) 0 0 0 (by decide) (by rw [hml]; rfl) (lenOf pd0 rfl) [] rfl rfl 33 (hb hy at_30) rfl rfl rfl all0 (fun _ K => IW.keep K sf0 W4.inv) ?_
  intro v5 T5 h5 lo5 W5 K5 q5
  obtain ⟨r1_5, P5_0, rfl⟩ := q5.2.2
  show Gl _ _ _ _ _ _ _ _ [(.int r1_5)]
  refine o_istore W5 (L' := #[vi p0, vi p1, vi p2, vi p3, vi p4, vi ((p0 &&& 2147483647) % (5 : Int32)), vi fl, vi r1_4, vi r1_5, un, un, un, un, un, un, un, un, un, un, un, un, un]) 35 (hb hy at_33) rfl rfl <| o_iloadN W5 36 (hb hy at_35) rfl rfl <| o_iload W5 38 (hb hy at_36) rfl rfl ?_
  refine o_staticC W5 (w1 hw) (w2 hw) (w3 hw) (w4 hw) (by decide) (rm2 l hw p3 fl h5 W5.old ) 0 0 0 (by decide) (by rw [hml]; rfl) (lenOf pd0 rfl) [] rfl rfl 41 (hb hy at_38) rfl rfl rfl all0 (fun _ K => IW.keep K sf0 W5.inv) ?_
  intro v6 T6 h6 lo6 W6 K6 q6
  obtain ⟨r1_6, P6_0, rfl⟩ := q6.2.2
  show Gl _ _ _ _ _ _ _ _ [(.int r1_6)]
  refine o_istore W6 (L' := #[vi p0, vi p1, vi p2, vi p3, vi p4, vi ((p0 &&& 2147483647) % (5 : Int32)), vi fl, vi r1_4, vi r1_5, vi r1_6, un, un, un, un, un, un, un, un, un, un, un, un]) 43 (hb hy at_41) rfl rfl <| o_iload W6 45 (hb hy at_43) rfl rfl <| o_iload W6 47 (hb hy at_45) rfl rfl ?_
  refine o_staticC W6 (w1 hw) (w2 hw) (w3 hw) (w4 hw) (by decide) (rm2 l hw p4 fl h6 W6.old ) 0 0 0 (by decide) (by rw [hml]; rfl) (lenOf pd0 rfl) [] rfl rfl 50 (hb hy at_47) rfl rfl rfl all0 (fun _ K => IW.keep K sf0 W6.inv) ?_
  intro v7 T7 h7 lo7 W7 K7 q7
  obtain ⟨r1_7, P7_0, rfl⟩ := q7.2.2
  show Gl _ _ _ _ _ _ _ _ [(.int r1_7)]
  refine o_istore W7 (L' := #[vi p0, vi p1, vi p2, vi p3, vi p4, vi ((p0 &&& 2147483647) % (5 : Int32)), vi fl, vi r1_4, vi r1_5, vi r1_6, vi r1_7, un, un, un, un, un, un, un, un, un, un, un]) 52 (hb hy at_50) rfl rfl <| o_iconst W7 (v := 0) 53 (hb hy at_52) rfl rfl ?_
  refine o_newP W7 (aty := .char) (w5 hw) (fun _ E => IW.ext E W7.inv) (by decide) (cap := 0) (by decide) (by decide) 55 (hb hy at_53) rfl (cells' := 1) (slots' := 0) rfl rfl (by decide) (by decide) (vs := []) (dv := iZ) rfl rfl ?_
  intro b8 T8 h8 k8 W8 E8 ge8 gz8 gb8 V8
  refine o_astore W8 (L' := #[vi p0, vi p1, vi p2, vi p3, vi p4, vi ((p0 &&& 2147483647) % (5 : Int32)), vi fl, vi r1_4, vi r1_5, vi r1_6, vi r1_7, vr b8, un, un, un, un, un, un, un, un, un, un]) 57 (hb hy at_55) rfl rfl rfl <| o_iconst W8 (v := 1) 58 (hb hy at_57) rfl rfl ?_
  refine o_newP W8 (aty := .char) (w5 hw) (fun _ E => IW.ext E W8.inv) (by decide) (cap := 1) (by decide) (by decide) 60 (hb hy at_58) rfl (cells' := 2) (slots' := 1) rfl rfl (by decide) (by decide) (vs := [iZ]) (dv := iZ) rfl rfl ?_
  intro b9 T9 h9 k9 W9 E9 ge9 gz9 gb9 V9
  refine o_dup W9 61 (hb hy at_60) rfl rfl <| o_iconst W9 (v := 0) 62 (hb hy at_61) rfl rfl <| o_iload W9 64 (hb hy at_62) rfl rfl ?_
  refine o_stC W9 V9 (i := 0) (x' := r1_4) (by decide) (by decide) (by decide) (Nat.lt_of_sub_eq_succ rfl) (own_i2cc P4_0) (vs' := [(.int r1_4)]) rfl gz9 (Or.inr gb9) (fun _ R => IW.wr R (Safe.arv W9.al V9 (by decide)) W9.inv) 65 (hb hy at_64) rfl ?_
  intro T10 h10 lo10 W10 R10 V10
  refine o_astore W10 (L' := #[vi p0, vi p1, vi p2, vi p3, vi p4, vi ((p0 &&& 2147483647) % (5 : Int32)), vi fl, vi r1_4, vi r1_5, vi r1_6, vi r1_7, vr b8, vr b9, un, un, un, un, un, un, un, un, un]) 67 (hb hy at_65) rfl rfl rfl <| o_iconst W10 (v := 2) 68 (hb hy at_67) rfl rfl ?_
  refine o_newP W10 (aty := .char) (w5 hw) (fun _ E => IW.ext E W10.inv) (by decide) (cap := 2) (by decide) (by decide) 70 (hb hy at_68) rfl (cells' := 3) (slots' := 3) rfl rfl (by decide) (by decide) (vs := [iZ, iZ]) (dv := iZ) rfl rfl ?_
  intro b11 T11 h11 k11 W11 E11 ge11 gz11 gb11 V11
  refine o_dup W11 71 (hb hy at_70) rfl rfl <| o_iconst W11 (v := 0) 72 (hb hy at_71) rfl rfl <| o_iload W11 74 (hb hy at_72) rfl rfl ?_
  refine o_stC W11 V11 (i := 0) (x' := r1_4) (by decide) (by decide) (by decide) (Nat.lt_of_sub_eq_succ rfl) (own_i2cc P4_0) (vs' := [(.int r1_4), iZ]) rfl gz11 (Or.inr gb11) (fun _ R => IW.wr R (Safe.arv W11.al V11 (by decide)) W11.inv) 75 (hb hy at_74) rfl ?_
  intro T12 h12 lo12 W12 R12 V12
  refine o_dup W12 76 (hb hy at_75) rfl rfl <| o_iconst W12 (v := 1) 77 (hb hy at_76) rfl rfl <| o_iload W12 79 (hb hy at_77) rfl rfl ?_
  refine o_stC W12 V12 (i := 1) (x' := r1_5) (by decide) (by decide) (by decide) (Nat.lt_of_sub_eq_succ rfl) (own_i2cc P5_0) (vs' := [(.int r1_4), (.int r1_5)]) rfl gz11 (Or.inr gb11) (fun _ R => IW.wr R (Safe.arv W12.al V12 (by decide)) W12.inv) 80 (hb hy at_79) rfl ?_
  intro T13 h13 lo13 W13 R13 V13
  refine o_astore W13 (L' := #[vi p0, vi p1, vi p2, vi p3, vi p4, vi ((p0 &&& 2147483647) % (5 : Int32)), vi fl, vi r1_4, vi r1_5, vi r1_6, vi r1_7, vr b8, vr b9, vr b11, un, un, un, un, un, un, un, un]) 82 (hb hy at_80) rfl rfl rfl <| o_iconst W13 (v := 3) 83 (hb hy at_82) rfl rfl ?_
  refine o_newP W13 (aty := .char) (w5 hw) (fun _ E => IW.ext E W13.inv) (by decide) (cap := 3) (by decide) (by decide) 85 (hb hy at_83) rfl (cells' := 4) (slots' := 6) rfl rfl (by decide) (by decide) (vs := [iZ, iZ, iZ]) (dv := iZ) rfl rfl ?_
  intro b14 T14 h14 k14 W14 E14 ge14 gz14 gb14 V14
  refine o_dup W14 86 (hb hy at_85) rfl rfl <| o_iconst W14 (v := 0) 87 (hb hy at_86) rfl rfl <| o_iload W14 89 (hb hy at_87) rfl rfl ?_
  refine o_stC W14 V14 (i := 0) (x' := r1_4) (by decide) (by decide) (by decide) (Nat.lt_of_sub_eq_succ rfl) (own_i2cc P4_0) (vs' := [(.int r1_4), iZ, iZ]) rfl gz14 (Or.inr gb14) (fun _ R => IW.wr R (Safe.arv W14.al V14 (by decide)) W14.inv) 90 (hb hy at_89) rfl ?_
  intro T15 h15 lo15 W15 R15 V15
  refine o_dup W15 91 (hb hy at_90) rfl rfl <| o_iconst W15 (v := 1) 92 (hb hy at_91) rfl rfl <| o_iload W15 94 (hb hy at_92) rfl rfl ?_
  refine o_stC W15 V15 (i := 1) (x' := r1_5) (by decide) (by decide) (by decide) (Nat.lt_of_sub_eq_succ rfl) (own_i2cc P5_0) (vs' := [(.int r1_4), (.int r1_5), iZ]) rfl gz14 (Or.inr gb14) (fun _ R => IW.wr R (Safe.arv W15.al V15 (by decide)) W15.inv) 95 (hb hy at_94) rfl ?_
  intro T16 h16 lo16 W16 R16 V16
  refine o_dup W16 96 (hb hy at_95) rfl rfl <| o_iconst W16 (v := 2) 97 (hb hy at_96) rfl rfl <| o_iload W16 99 (hb hy at_97) rfl rfl ?_
  refine o_stC W16 V16 (i := 2) (x' := r1_6) (by decide) (by decide) (by decide) (Nat.lt_of_sub_eq_succ rfl) (own_i2cc P6_0) (vs' := [(.int r1_4), (.int r1_5), (.int r1_6)]) rfl gz14 (Or.inr gb14) (fun _ R => IW.wr R (Safe.arv W16.al V16 (by decide)) W16.inv) 100 (hb hy at_99) rfl ?_
  intro T17 h17 lo17 W17 R17 V17
  refine o_astore W17 (L' := #[vi p0, vi p1, vi p2, vi p3, vi p4, vi ((p0 &&& 2147483647) % (5 : Int32)), vi fl, vi r1_4, vi r1_5, vi r1_6, vi r1_7, vr b8, vr b9, vr b11, vr b14, un, un, un, un, un, un, un]) 102 (hb hy at_100) rfl rfl rfl <| o_iconst W17 (v := 4) 103 (hb hy at_102) rfl rfl ?_
  refine o_newP W17 (aty := .char) (w5 hw) (fun _ E => IW.ext E W17.inv) (by decide) (cap := 4) (by decide) (by decide) 105 (hb hy at_103) rfl (cells' := 5) (slots' := 10) rfl rfl (by decide) (by decide) (vs := [iZ, iZ, iZ, iZ]) (dv := iZ) rfl rfl ?_
  intro b18 T18 h18 k18 W18 E18 ge18 gz18 gb18 V18
  refine o_dup W18 106 (hb hy at_105) rfl rfl <| o_iconst W18 (v := 0) 107 (hb hy at_106) rfl rfl <| o_iload W18 109 (hb hy at_107) rfl rfl ?_
  refine o_stC W18 V18 (i := 0) (x' := r1_4) (by decide) (by decide) (by decide) (Nat.lt_of_sub_eq_succ rfl) (own_i2cc P4_0) (vs' := [(.int r1_4), iZ, iZ, iZ]) rfl gz18 (Or.inr gb18) (fun _ R => IW.wr R (Safe.arv W18.al V18 (by decide)) W18.inv) 110 (hb hy at_109) rfl ?_
  intro T19 h19 lo19 W19 R19 V19
  refine o_dup W19 111 (hb hy at_110) rfl rfl <| o_iconst W19 (v := 1) 112 (hb hy at_111) rfl rfl <| o_iload W19 114 (hb hy at_112) rfl rfl ?_
  refine o_stC W19 V19 (i := 1) (x' := r1_5) (by decide) (by decide) (by decide) (Nat.lt_of_sub_eq_succ rfl) (own_i2cc P5_0) (vs' := [(.int r1_4), (.int r1_5), iZ, iZ]) rfl gz18 (Or.inr gb18) (fun _ R => IW.wr R (Safe.arv W19.al V19 (by decide)) W19.inv) 115 (hb hy at_114) rfl ?_
  intro T20 h20 lo20 W20 R20 V20
  refine o_dup W20 116 (hb hy at_115) rfl rfl <| o_iconst W20 (v := 2) 117 (hb hy at_116) rfl rfl <| o_iload W20 119 (hb hy at_117) rfl rfl ?_
  refine o_stC W20 V20 (i := 2) (x' := r1_6) (by decide) (by decide) (by decide) (Nat.lt_of_sub_eq_succ rfl) (own_i2cc P6_0) (vs' := [(.int r1_4), (.int r1_5), (.int r1_6), iZ]) rfl gz18 (Or.inr gb18) (fun _ R => IW.wr R (Safe.arv W20.al V20 (by decide)) W20.inv) 120 (hb hy at_119) rfl ?_
  intro T21 h21 lo21 W21 R21 V21
  refine o_dup W21 121 (hb hy at_120) rfl rfl <| o_iconst W21 (v := 3) 122 (hb hy at_121) rfl rfl <| o_iload W21 124 (hb hy at_122) rfl rfl ?_
  refine o_stC W21 V21 (i := 3) (x' := r1_7) (by decide) (by decide) (by decide) (Nat.lt_of_sub_eq_succ rfl) (own_i2cc P7_0) (vs' := [(.int r1_4), (.int r1_5), (.int r1_6), (.int r1_7)]) rfl gz18 (Or.inr gb18) (fun _ R => IW.wr R (Safe.arv W21.al V21 (by decide)) W21.inv) 125 (hb hy at_124) rfl ?_
  intro T22 h22 lo22 W22 R22 V22
  refine o_astore W22 (L' := #[vi p0, vi p1, vi p2, vi p3, vi p4, vi ((p0 &&& 2147483647) % (5 : Int32)), vi fl, vi r1_4, vi r1_5, vi r1_6, vi r1_7, vr b8, vr b9, vr b11, vr b14, vr b18, un, un, un, un, un, un]) 127 (hb hy at_125) rfl rfl rfl ?_
  refine o_tail W22 (α := Int32 × Addr × Addr × Int32) 261 (fun v => #[.val (.int p0), .val (.int p1), .val (.int p2), .val (.int p3), .val (.int p4), .val (.int v.1), .val (.int fl), .val (.int r1_4), .val (.int r1_5), .val (.int r1_6), .val (.int r1_7), .val (.ref b8), .val (.ref b9), .val (.ref b11), .val (.ref b14), .val (.ref b18), .val (.ref v.2.1), .val (.ref v.2.2.1), .val (.int v.2.2.2), .val (.int v.2.2.2), .unset, .unset]) 10 26 (fun KT => ?_) (fun Vt Tt ht lot cst slt Wt hct hst v => ?_)
  · rcases own_rem5 p0 with ek23 | ek23 | ek23 | ek23 | ek23
    · rw [ek23]
      refine o_iload W22 129 (hb hy at_127) rfl rfl <| o_ifN W22 132 (hb hy at_129) (XT.i0_ne_f (by decide)) rfl <| o_aload W22 134 (hb hy at_132) rfl rfl rfl <| o_goto W22 172 (hb hy at_134) (by decide) rfl <| o_astore W22 (L' := #[vi p0, vi p1, vi p2, vi p3, vi p4, vi 0, vi fl, vi r1_4, vi r1_5, vi r1_6, vi r1_7, vr b8, vr b9, vr b11, vr b14, vr b18, vr b8, un, un, un, un, un]) 174 (hb hy at_172) rfl rfl rfl ?_
      refine o_new W22 (w6 hw) (w7 hw) (w8 hw) (fun _ E => IW.ext E W22.inv) 177 (hb hy at_174) rfl (cells' := 6) (slots' := 14) rfl rfl (by decide) (by decide) ?_
      intro b24 T24 h24 W24 E24 ge24 gz24 gb24 A24 D24
      have Fb24_value : Fld Z h24 b24 s0 "value" "[B" .null := D24 (Or.inr (w21 hw)) (ty := (.array .byte)) (by decide)
      have Fb24_coder : Fld Z h24 b24 s0 "coder" "B" iZ := D24 (Or.inr (w22 hw)) (ty := .byte) (by decide)
      refine o_dup W24 178 (hb hy at_177) rfl rfl <| o_aload W24 180 (hb hy at_178) rfl rfl rfl ?_
      have c25 := ((V8.ext E9).other R10 (own_ne V8.lt ge9))
      have c26 := (((c25.ext E11).other R12 (own_ne c25.lt ge11)).other R13 (own_ne c25.lt ge11))
      have c27 := ((((c26.ext E14).other R15 (own_ne c26.lt ge14)).other R16 (own_ne c26.lt ge14)).other R17 (own_ne c26.lt ge14))
      have c28 := (((((((((((((((V8.ext E9).other R10 (own_ne V8.lt ge9)).ext E11).other R12 (own_ne c25.lt ge11)).other R13 (own_ne c25.lt ge11)).ext E14).other R15 (own_ne c26.lt ge14)).other R16 (own_ne c26.lt ge14)).other R17 (own_ne c26.lt ge14)).ext E18).other R19 (own_ne c27.lt ge18)).other R20 (own_ne c27.lt ge18)).other R21 (own_ne c27.lt ge18)).other R22 (own_ne c27.lt ge18)).ext E24)
      refine o_specialW W24 (y := mn6) rfl (w9 hw) (w10 hw) (w11 hw) (by decide) (a := b24) (argsL := [(.ref b8)]) (CtrW.back (Wd := 1) W24 (rm4 l hw b24 b8 k8 h24 W24.old c28 A24 Fb24_value Fb24_coder gz24) (w11 hw) (w8 hw) (by decide) (by decide) (own_EL hw)) (by rw [hml]; rfl) (lenOf pd2 rfl) (S := [(.ref b24)]) rfl (by exact Nat.le_of_eq rfl) 183 (hb hy at_180) rfl (cells' := 10) (slots' := 22) rfl rfl (by decide) (by decide) (wy := [b24]) qf (allS ⟨gz24, (Or.inr gb24)⟩ all0)  ?_
      intro v29 T29 h29 V29 lo29 W29 K29 C29 q29
      obtain ⟨r1_29, r2_29, P29_0, P29_1, P29_2, rfl⟩ := q29.2.2
      show Gl _ _ _ _ _ _ _ _ [(.ref b24)]
      refine o_astore W29 (L' := #[vi p0, vi p1, vi p2, vi p3, vi p4, vi 0, vi fl, vi r1_4, vi r1_5, vi r1_6, vi r1_7, vr b8, vr b9, vr b11, vr b14, vr b18, vr b8, vr b24, un, un, un, un]) 185 (hb hy at_183) rfl rfl rfl <| o_aload W29 187 (hb hy at_185) rfl rfl rfl ?_
      have c30 := (A24.keep K29)
      refine o_staticC W29 (w27 hw) (w28 hw) (w29 hw) (w30 hw) (by decide) (rm6 l hw b24 r1_29 r2_29 h29 W29.old c30 P29_0 P29_2) 0 10 22 (by decide) (by rw [hml]; rfl) (lenOf pd4 rfl) [] rfl rfl 190 (hb hy at_187) rfl rfl rfl all0 (fun _ K => IW.keep K sf0 W29.inv) ?_
      intro v31 T31 h31 lo31 W31 K31 q31
      obtain rfl := q31.2.2
      show Gl _ _ _ _ _ _ _ _ [iZ]
      refine o_istore W31 (L' := #[vi p0, vi p1, vi p2, vi p3, vi p4, vi 0, vi fl, vi r1_4, vi r1_5, vi r1_6, vi r1_7, vr b8, vr b9, vr b11, vr b14, vr b18, vr b8, vr b24, vi 0, un, un, un]) 192 (hb hy at_190) rfl rfl <| o_iload W31 194 (hb hy at_192) rfl rfl <| o_iconst W31 (v := 1) 195 (hb hy at_194) rfl rfl <| o_icmpY W31 258 (hb hy at_195) (XT.ii_lt_t (by decide)) (by decide) rfl <| o_iconst W31 (v := 0) 259 (hb hy at_258) rfl rfl <| o_istore W31 (L' := #[vi p0, vi p1, vi p2, vi p3, vi p4, vi 0, vi fl, vi r1_4, vi r1_5, vi r1_6, vi r1_7, vr b8, vr b9, vr b11, vr b14, vr b18, vr b8, vr b24, vi 0, vi 0, un, un]) 261 (hb hy at_259) rfl rfl ?_
      exact KT _ _ _ _ _ _ W31 (by decide) (by decide) ((0 : Int32), b8, b24, (0 : Int32))
    · rw [ek23]
      refine o_iload W22 129 (hb hy at_127) rfl rfl <| o_ifY W22 137 (hb hy at_129) (XT.i0_ne_t (by decide)) (by decide) rfl <| o_iload W22 139 (hb hy at_137) rfl rfl <| o_iconst W22 (v := 1) 140 (hb hy at_139) rfl rfl <| o_icmpN W22 143 (hb hy at_140) (XT.ii_ne_f (by decide)) rfl <| o_aload W22 145 (hb hy at_143) rfl rfl rfl ?_
      refine o_goto W22 172 (hb hy at_145) (by decide) rfl <| o_astore W22 (L' := #[vi p0, vi p1, vi p2, vi p3, vi p4, vi 1, vi fl, vi r1_4, vi r1_5, vi r1_6, vi r1_7, vr b8, vr b9, vr b11, vr b14, vr b18, vr b9, un, un, un, un, un]) 174 (hb hy at_172) rfl rfl rfl ?_
      refine o_new W22 (w6 hw) (w7 hw) (w8 hw) (fun _ E => IW.ext E W22.inv) 177 (hb hy at_174) rfl (cells' := 6) (slots' := 14) rfl rfl (by decide) (by decide) ?_
      intro b32 T32 h32 W32 E32 ge32 gz32 gb32 A32 D32
      have Fb32_value : Fld Z h32 b32 s0 "value" "[B" .null := D32 (Or.inr (w21 hw)) (ty := (.array .byte)) (by decide)
      have Fb32_coder : Fld Z h32 b32 s0 "coder" "B" iZ := D32 (Or.inr (w22 hw)) (ty := .byte) (by decide)
      refine o_dup W32 178 (hb hy at_177) rfl rfl <| o_aload W32 180 (hb hy at_178) rfl rfl rfl ?_
      have c33 := (((V10.ext E11).other R12 (own_ne V10.lt ge11)).other R13 (own_ne V10.lt ge11))
      have c34 := ((((c33.ext E14).other R15 (own_ne c33.lt ge14)).other R16 (own_ne c33.lt ge14)).other R17 (own_ne c33.lt ge14))
      have c35 := (((((((((((((V10.ext E11).other R12 (own_ne V10.lt ge11)).other R13 (own_ne V10.lt ge11)).ext E14).other R15 (own_ne c33.lt ge14)).other R16 (own_ne c33.lt ge14)).other R17 (own_ne c33.lt ge14)).ext E18).other R19 (own_ne c34.lt ge18)).other R20 (own_ne c34.lt ge18)).other R21 (own_ne c34.lt ge18)).other R22 (own_ne c34.lt ge18)).ext E32)
      have sf36 := own_safeS (EL := consts_1) W32.al A32 Fb32_value
      refine o_specialC W32 rfl (w9 hw) (w10 hw) (w11 hw) (by decide) (w8 hw) (rm37 l hw gCS gF b32 b9 k9 r1_4 h32 W32.old c35 SgCS NgCS P4_0 A32 Fb32_coder Fb32_value gz32 SgF NgF z0 z1 z2) 1 8 17 (by decide) (by rw [hml]; rfl) (lenOf pd2 rfl) [(.ref b32)] rfl rfl 183 (hb hy at_180) rfl rfl rfl (allS ⟨gz32, (Or.inr gb32)⟩ all0) (fun _ K => IW.keep K (sfS sf36 sf0) W32.inv) ?_
      intro v37 T37 h37 lo37 W37 K37 q37
      obtain ⟨P37_0, rfl⟩ := q37.2.2
      show Gl _ _ _ _ _ _ _ _ [(.ref b32)]
      refine o_astore W37 (L' := #[vi p0, vi p1, vi p2, vi p3, vi p4, vi 1, vi fl, vi r1_4, vi r1_5, vi r1_6, vi r1_7, vr b8, vr b9, vr b11, vr b14, vr b18, vr b9, vr b32, un, un, un, un]) 185 (hb hy at_183) rfl rfl rfl <| o_aload W37 187 (hb hy at_185) rfl rfl rfl ?_
      by_cases hq38 : (own_okc r1_4) = (0 : Int32)
      · have c39 := (A32.keep K37)
        refine o_staticC W37 (w27 hw) (w28 hw) (w29 hw) (w30 hw) (by decide) (rm38 l hw b32 r1_4 h37 W37.old c39 P37_0 hq38) 0 8 17 (by decide) (by rw [hml]; rfl) (lenOf pd4 rfl) [] rfl rfl 190 (hb hy at_187) rfl rfl rfl all0 (fun _ K => IW.keep K sf0 W37.inv) ?_
        intro v40 T40 h40 lo40 W40 K40 q40
        obtain rfl := q40.2.2
        show Gl _ _ _ _ _ _ _ _ [iZ]
        refine o_istore W40 (L' := #[vi p0, vi p1, vi p2, vi p3, vi p4, vi 1, vi fl, vi r1_4, vi r1_5, vi r1_6, vi r1_7, vr b8, vr b9, vr b11, vr b14, vr b18, vr b9, vr b32, vi 0, un, un, un]) 192 (hb hy at_190) rfl rfl <| o_iload W40 194 (hb hy at_192) rfl rfl <| o_iconst W40 (v := 1) 195 (hb hy at_194) rfl rfl <| o_icmpN W40 198 (hb hy at_195) (XT.ii_lt_f (by decide)) rfl <| o_iload W40 200 (hb hy at_198) rfl rfl <| o_iconst W40 (v := 1) 201 (hb hy at_200) rfl rfl ?_
        refine o_icmpN W40 204 (hb hy at_201) (XT.ii_lt_f (by decide)) rfl <| o_iload W40 206 (hb hy at_204) rfl rfl ?_
        refine o_staticC W40 (w81 hw) (w82 hw) (w3 hw) (w83 hw) (by decide) (rm1 l hw r1_4 h40 W40.old P4_0) 0 8 17 (by decide) (by rw [hml]; rfl) (lenOf pd19 rfl) [] rfl rfl 209 (hb hy at_206) rfl rfl rfl all0 (fun _ K => IW.keep K sf0 W40.inv) ?_
        intro v41 T41 h41 lo41 W41 K41 q41
        obtain rfl := q41.2.2
        show Gl _ _ _ _ _ _ _ _ [(.int (own_okc r1_4))]
        refine o_ifY W41 258 (hb hy at_209) (XT.i0_eq_t hq38) (by decide) rfl <| o_iconst W41 (v := 0) 259 (hb hy at_258) rfl rfl <| o_istore W41 (L' := #[vi p0, vi p1, vi p2, vi p3, vi p4, vi 1, vi fl, vi r1_4, vi r1_5, vi r1_6, vi r1_7, vr b8, vr b9, vr b11, vr b14, vr b18, vr b9, vr b32, vi 0, vi 0, un, un]) 261 (hb hy at_259) rfl rfl ?_
        exact KT _ _ _ _ _ _ W41 (by decide) (by decide) ((1 : Int32), b9, b32, (0 : Int32))
      · have c42 := (A32.keep K37)
        refine o_staticC W37 (w27 hw) (w28 hw) (w29 hw) (w30 hw) (by decide) (rm39 l hw b32 r1_4 h37 W37.old c42 P37_0 hq38) 0 8 17 (by decide) (by rw [hml]; rfl) (lenOf pd4 rfl) [] rfl rfl 190 (hb hy at_187) rfl rfl rfl all0 (fun _ K => IW.keep K sf0 W37.inv) ?_
        intro v43 T43 h43 lo43 W43 K43 q43
        obtain rfl := q43.2.2
        show Gl _ _ _ _ _ _ _ _ [(.int 1)]
        refine o_istore W43 (L' := #[vi p0, vi p1, vi p2, vi p3, vi p4, vi 1, vi fl, vi r1_4, vi r1_5, vi r1_6, vi r1_7, vr b8, vr b9, vr b11, vr b14, vr b18, vr b9, vr b32, vi 1, un, un, un]) 192 (hb hy at_190) rfl rfl <| o_iload W43 194 (hb hy at_192) rfl rfl <| o_iconst W43 (v := 1) 195 (hb hy at_194) rfl rfl <| o_icmpN W43 198 (hb hy at_195) (XT.ii_lt_f (by decide)) rfl <| o_iload W43 200 (hb hy at_198) rfl rfl <| o_iconst W43 (v := 1) 201 (hb hy at_200) rfl rfl ?_
        refine o_icmpN W43 204 (hb hy at_201) (XT.ii_lt_f (by decide)) rfl <| o_iload W43 206 (hb hy at_204) rfl rfl ?_
        refine o_staticC W43 (w81 hw) (w82 hw) (w3 hw) (w83 hw) (by decide) (rm1 l hw r1_4 h43 W43.old P4_0) 0 8 17 (by decide) (by rw [hml]; rfl) (lenOf pd19 rfl) [] rfl rfl 209 (hb hy at_206) rfl rfl rfl all0 (fun _ K => IW.keep K sf0 W43.inv) ?_
        intro v44 T44 h44 lo44 W44 K44 q44
        obtain rfl := q44.2.2
        show Gl _ _ _ _ _ _ _ _ [(.int (own_okc r1_4))]
        refine o_ifN W44 212 (hb hy at_209) (XT.i0_eq_f hq38) rfl <| o_iload W44 214 (hb hy at_212) rfl rfl <| o_iconst W44 (v := 2) 215 (hb hy at_214) rfl rfl <| o_icmpY W44 226 (hb hy at_215) (XT.ii_lt_t (by decide)) (by decide) rfl <| o_iload W44 228 (hb hy at_226) rfl rfl <| o_iconst W44 (v := 3) 229 (hb hy at_228) rfl rfl ?_
        refine o_icmpY W44 240 (hb hy at_229) (XT.ii_lt_t (by decide)) (by decide) rfl <| o_iload W44 242 (hb hy at_240) rfl rfl <| o_iconst W44 (v := 4) 243 (hb hy at_242) rfl rfl <| o_icmpY W44 254 (hb hy at_243) (XT.ii_lt_t (by decide)) (by decide) rfl <| o_iconst W44 (v := 1) 255 (hb hy at_254) rfl rfl <| o_goto W44 259 (hb hy at_255) (by decide) rfl ?_
        refine o_istore W44 (L' := #[vi p0, vi p1, vi p2, vi p3, vi p4, vi 1, vi fl, vi r1_4, vi r1_5, vi r1_6, vi r1_7, vr b8, vr b9, vr b11, vr b14, vr b18, vr b9, vr b32, vi 1, vi 1, un, un]) 261 (hb hy at_259) rfl rfl ?_
        exact KT _ _ _ _ _ _ W44 (by decide) (by decide) ((1 : Int32), b9, b32, (1 : Int32))
    · rw [ek23]
      refine o_iload W22 129 (hb hy at_127) rfl rfl <| o_ifY W22 137 (hb hy at_129) (XT.i0_ne_t (by decide)) (by decide) rfl <| o_iload W22 139 (hb hy at_137) rfl rfl <| o_iconst W22 (v := 1) 140 (hb hy at_139) rfl rfl <| o_icmpY W22 148 (hb hy at_140) (XT.ii_ne_t (by decide)) (by decide) rfl <| o_iload W22 150 (hb hy at_148) rfl rfl ?_
      refine o_iconst W22 (v := 2) 151 (hb hy at_150) rfl rfl <| o_icmpN W22 154 (hb hy at_151) (XT.ii_ne_f (by decide)) rfl <| o_aload W22 156 (hb hy at_154) rfl rfl rfl <| o_goto W22 172 (hb hy at_156) (by decide) rfl <| o_astore W22 (L' := #[vi p0, vi p1, vi p2, vi p3, vi p4, vi 2, vi fl, vi r1_4, vi r1_5, vi r1_6, vi r1_7, vr b8, vr b9, vr b11, vr b14, vr b18, vr b11, un, un, un, un, un]) 174 (hb hy at_172) rfl rfl rfl ?_
      refine o_new W22 (w6 hw) (w7 hw) (w8 hw) (fun _ E => IW.ext E W22.inv) 177 (hb hy at_174) rfl (cells' := 6) (slots' := 14) rfl rfl (by decide) (by decide) ?_
      intro b45 T45 h45 W45 E45 ge45 gz45 gb45 A45 D45
      have Fb45_value : Fld Z h45 b45 s0 "value" "[B" .null := D45 (Or.inr (w21 hw)) (ty := (.array .byte)) (by decide)
      have Fb45_coder : Fld Z h45 b45 s0 "coder" "B" iZ := D45 (Or.inr (w22 hw)) (ty := .byte) (by decide)
      refine o_dup W45 178 (hb hy at_177) rfl rfl <| o_aload W45 180 (hb hy at_178) rfl rfl rfl ?_
      have c46 := ((((V13.ext E14).other R15 (own_ne V13.lt ge14)).other R16 (own_ne V13.lt ge14)).other R17 (own_ne V13.lt ge14))
      have c47 := ((((((((((V13.ext E14).other R15 (own_ne V13.lt ge14)).other R16 (own_ne V13.lt ge14)).other R17 (own_ne V13.lt ge14)).ext E18).other R19 (own_ne c46.lt ge18)).other R20 (own_ne c46.lt ge18)).other R21 (own_ne c46.lt ge18)).other R22 (own_ne c46.lt ge18)).ext E45)
      have sf48 := own_safeS (EL := consts_1) W45.al A45 Fb45_value
      refine o_specialC W45 rfl (w9 hw) (w10 hw) (w11 hw) (by decide) (w8 hw) (rm79 l hw gCS gF b45 b11 k11 r1_4 r1_5 h45 W45.old c47 SgCS NgCS P4_0 P5_0 A45 Fb45_coder Fb45_value gz45 SgF NgF z0 z1 z2) 1 8 20 (by decide) (by rw [hml]; rfl) (lenOf pd2 rfl) [(.ref b45)] rfl rfl 183 (hb hy at_180) rfl rfl rfl (allS ⟨gz45, (Or.inr gb45)⟩ all0) (fun _ K => IW.keep K (sfS sf48 sf0) W45.inv) ?_
      intro v49 T49 h49 lo49 W49 K49 q49
      obtain ⟨P49_0, rfl⟩ := q49.2.2
      show Gl _ _ _ _ _ _ _ _ [(.ref b45)]
      refine o_astore W49 (L' := #[vi p0, vi p1, vi p2, vi p3, vi p4, vi 2, vi fl, vi r1_4, vi r1_5, vi r1_6, vi r1_7, vr b8, vr b9, vr b11, vr b14, vr b18, vr b11, vr b45, un, un, un, un]) 185 (hb hy at_183) rfl rfl rfl <| o_aload W49 187 (hb hy at_185) rfl rfl rfl ?_
      by_cases hq50 : (own_okc r1_4) = (0 : Int32)
      · have c51 := (A45.keep K49)
        refine o_staticC W49 (w27 hw) (w28 hw) (w29 hw) (w30 hw) (by decide) (rm80 l hw b45 r1_4 r1_5 h49 W49.old c51 P49_0 hq50) 0 8 20 (by decide) (by rw [hml]; rfl) (lenOf pd4 rfl) [] rfl rfl 190 (hb hy at_187) rfl rfl rfl all0 (fun _ K => IW.keep K sf0 W49.inv) ?_
        intro v52 T52 h52 lo52 W52 K52 q52
        obtain rfl := q52.2.2
        show Gl _ _ _ _ _ _ _ _ [iZ]
        refine o_istore W52 (L' := #[vi p0, vi p1, vi p2, vi p3, vi p4, vi 2, vi fl, vi r1_4, vi r1_5, vi r1_6, vi r1_7, vr b8, vr b9, vr b11, vr b14, vr b18, vr b11, vr b45, vi 0, un, un, un]) 192 (hb hy at_190) rfl rfl <| o_iload W52 194 (hb hy at_192) rfl rfl <| o_iconst W52 (v := 1) 195 (hb hy at_194) rfl rfl <| o_icmpN W52 198 (hb hy at_195) (XT.ii_lt_f (by decide)) rfl <| o_iload W52 200 (hb hy at_198) rfl rfl <| o_iconst W52 (v := 1) 201 (hb hy at_200) rfl rfl ?_
        refine o_icmpN W52 204 (hb hy at_201) (XT.ii_lt_f (by decide)) rfl <| o_iload W52 206 (hb hy at_204) rfl rfl ?_
        refine o_staticC W52 (w81 hw) (w82 hw) (w3 hw) (w83 hw) (by decide) (rm1 l hw r1_4 h52 W52.old P4_0) 0 8 20 (by decide) (by rw [hml]; rfl) (lenOf pd19 rfl) [] rfl rfl 209 (hb hy at_206) rfl rfl rfl all0 (fun _ K => IW.keep K sf0 W52.inv) ?_
        intro v53 T53 h53 lo53 W53 K53 q53
        obtain rfl := q53.2.2
        show Gl _ _ _ _ _ _ _ _ [(.int (own_okc r1_4))]
        refine o_ifY W53 258 (hb hy at_209) (XT.i0_eq_t hq50) (by decide) rfl <| o_iconst W53 (v := 0) 259 (hb hy at_258) rfl rfl <| o_istore W53 (L' := #[vi p0, vi p1, vi p2, vi p3, vi p4, vi 2, vi fl, vi r1_4, vi r1_5, vi r1_6, vi r1_7, vr b8, vr b9, vr b11, vr b14, vr b18, vr b11, vr b45, vi 0, vi 0, un, un]) 261 (hb hy at_259) rfl rfl ?_
        exact KT _ _ _ _ _ _ W53 (by decide) (by decide) ((2 : Int32), b11, b45, (0 : Int32))
      · by_cases hq54 : (own_okc r1_5) = (0 : Int32)
        · have c55 := (A45.keep K49)
          refine o_staticC W49 (w27 hw) (w28 hw) (w29 hw) (w30 hw) (by decide) (rm81 l hw b45 r1_4 r1_5 h49 W49.old c55 P49_0 hq50 hq54) 0 8 20 (by decide) (by rw [hml]; rfl) (lenOf pd4 rfl) [] rfl rfl 190 (hb hy at_187) rfl rfl rfl all0 (fun _ K => IW.keep K sf0 W49.inv) ?_
          intro v56 T56 h56 lo56 W56 K56 q56
          obtain rfl := q56.2.2
          show Gl _ _ _ _ _ _ _ _ [iZ]
          refine o_istore W56 (L' := #[vi p0, vi p1, vi p2, vi p3, vi p4, vi 2, vi fl, vi r1_4, vi r1_5, vi r1_6, vi r1_7, vr b8, vr b9, vr b11, vr b14, vr b18, vr b11, vr b45, vi 0, un, un, un]) 192 (hb hy at_190) rfl rfl <| o_iload W56 194 (hb hy at_192) rfl rfl <| o_iconst W56 (v := 1) 195 (hb hy at_194) rfl rfl <| o_icmpN W56 198 (hb hy at_195) (XT.ii_lt_f (by decide)) rfl <| o_iload W56 200 (hb hy at_198) rfl rfl <| o_iconst W56 (v := 1) 201 (hb hy at_200) rfl rfl ?_
          refine o_icmpN W56 204 (hb hy at_201) (XT.ii_lt_f (by decide)) rfl <| o_iload W56 206 (hb hy at_204) rfl rfl ?_
          refine o_staticC W56 (w81 hw) (w82 hw) (w3 hw) (w83 hw) (by decide) (rm1 l hw r1_4 h56 W56.old P4_0) 0 8 20 (by decide) (by rw [hml]; rfl) (lenOf pd19 rfl) [] rfl rfl 209 (hb hy at_206) rfl rfl rfl all0 (fun _ K => IW.keep K sf0 W56.inv) ?_
          intro v57 T57 h57 lo57 W57 K57 q57
          obtain rfl := q57.2.2
          show Gl _ _ _ _ _ _ _ _ [(.int (own_okc r1_4))]
          refine o_ifN W57 212 (hb hy at_209) (XT.i0_eq_f hq50) rfl <| o_iload W57 214 (hb hy at_212) rfl rfl <| o_iconst W57 (v := 2) 215 (hb hy at_214) rfl rfl <| o_icmpN W57 218 (hb hy at_215) (XT.ii_lt_f (by decide)) rfl <| o_iload W57 220 (hb hy at_218) rfl rfl ?_
          refine o_staticC W57 (w81 hw) (w82 hw) (w3 hw) (w83 hw) (by decide) (rm1 l hw r1_5 h57 W57.old P5_0) 0 8 20 (by decide) (by rw [hml]; rfl) (lenOf pd19 rfl) [] rfl rfl 223 (hb hy at_220) rfl rfl rfl all0 (fun _ K => IW.keep K sf0 W57.inv) ?_
          intro v58 T58 h58 lo58 W58 K58 q58
          obtain rfl := q58.2.2
          show Gl _ _ _ _ _ _ _ _ [(.int (own_okc r1_5))]
          refine o_ifY W58 258 (hb hy at_223) (XT.i0_eq_t hq54) (by decide) rfl <| o_iconst W58 (v := 0) 259 (hb hy at_258) rfl rfl <| o_istore W58 (L' := #[vi p0, vi p1, vi p2, vi p3, vi p4, vi 2, vi fl, vi r1_4, vi r1_5, vi r1_6, vi r1_7, vr b8, vr b9, vr b11, vr b14, vr b18, vr b11, vr b45, vi 0, vi 0, un, un]) 261 (hb hy at_259) rfl rfl ?_
          exact KT _ _ _ _ _ _ W58 (by decide) (by decide) ((2 : Int32), b11, b45, (0 : Int32))
        · have c59 := (A45.keep K49)
          refine o_staticC W49 (w27 hw) (w28 hw) (w29 hw) (w30 hw) (by decide) (rm82 l hw b45 r1_4 r1_5 h49 W49.old c59 P49_0 hq50 hq54) 0 8 20 (by decide) (by rw [hml]; rfl) (lenOf pd4 rfl) [] rfl rfl 190 (hb hy at_187) rfl rfl rfl all0 (fun _ K => IW.keep K sf0 W49.inv) ?_
          intro v60 T60 h60 lo60 W60 K60 q60
          obtain rfl := q60.2.2
          show Gl _ _ _ _ _ _ _ _ [(.int 1)]
          refine o_istore W60 (L' := #[vi p0, vi p1, vi p2, vi p3, vi p4, vi 2, vi fl, vi r1_4, vi r1_5, vi r1_6, vi r1_7, vr b8, vr b9, vr b11, vr b14, vr b18, vr b11, vr b45, vi 1, un, un, un]) 192 (hb hy at_190) rfl rfl <| o_iload W60 194 (hb hy at_192) rfl rfl <| o_iconst W60 (v := 1) 195 (hb hy at_194) rfl rfl <| o_icmpN W60 198 (hb hy at_195) (XT.ii_lt_f (by decide)) rfl <| o_iload W60 200 (hb hy at_198) rfl rfl <| o_iconst W60 (v := 1) 201 (hb hy at_200) rfl rfl ?_
          refine o_icmpN W60 204 (hb hy at_201) (XT.ii_lt_f (by decide)) rfl <| o_iload W60 206 (hb hy at_204) rfl rfl ?_
          refine o_staticC W60 (w81 hw) (w82 hw) (w3 hw) (w83 hw) (by decide) (rm1 l hw r1_4 h60 W60.old P4_0) 0 8 20 (by decide) (by rw [hml]; rfl) (lenOf pd19 rfl) [] rfl rfl 209 (hb hy at_206) rfl rfl rfl all0 (fun _ K => IW.keep K sf0 W60.inv) ?_
          intro v61 T61 h61 lo61 W61 K61 q61
          obtain rfl := q61.2.2
          show Gl _ _ _ _ _ _ _ _ [(.int (own_okc r1_4))]
          refine o_ifN W61 212 (hb hy at_209) (XT.i0_eq_f hq50) rfl <| o_iload W61 214 (hb hy at_212) rfl rfl <| o_iconst W61 (v := 2) 215 (hb hy at_214) rfl rfl <| o_icmpN W61 218 (hb hy at_215) (XT.ii_lt_f (by decide)) rfl <| o_iload W61 220 (hb hy at_218) rfl rfl ?_
          refine o_staticC W61 (w81 hw) (w82 hw) (w3 hw) (w83 hw) (by decide) (rm1 l hw r1_5 h61 W61.old P5_0) 0 8 20 (by decide) (by rw [hml]; rfl) (lenOf pd19 rfl) [] rfl rfl 223 (hb hy at_220) rfl rfl rfl all0 (fun _ K => IW.keep K sf0 W61.inv) ?_
          intro v62 T62 h62 lo62 W62 K62 q62
          obtain rfl := q62.2.2
          show Gl _ _ _ _ _ _ _ _ [(.int (own_okc r1_5))]
          refine o_ifN W62 226 (hb hy at_223) (XT.i0_eq_f hq54) rfl <| o_iload W62 228 (hb hy at_226) rfl rfl <| o_iconst W62 (v := 3) 229 (hb hy at_228) rfl rfl <| o_icmpY W62 240 (hb hy at_229) (XT.ii_lt_t (by decide)) (by decide) rfl <| o_iload W62 242 (hb hy at_240) rfl rfl <| o_iconst W62 (v := 4) 243 (hb hy at_242) rfl rfl ?_
          refine o_icmpY W62 254 (hb hy at_243) (XT.ii_lt_t (by decide)) (by decide) rfl <| o_iconst W62 (v := 1) 255 (hb hy at_254) rfl rfl <| o_goto W62 259 (hb hy at_255) (by decide) rfl <| o_istore W62 (L' := #[vi p0, vi p1, vi p2, vi p3, vi p4, vi 2, vi fl, vi r1_4, vi r1_5, vi r1_6, vi r1_7, vr b8, vr b9, vr b11, vr b14, vr b18, vr b11, vr b45, vi 1, vi 1, un, un]) 261 (hb hy at_259) rfl rfl ?_
          exact KT _ _ _ _ _ _ W62 (by decide) (by decide) ((2 : Int32), b11, b45, (1 : Int32))
    · rw [ek23]
      refine o_iload W22 129 (hb hy at_127) rfl rfl <| o_ifY W22 137 (hb hy at_129) (XT.i0_ne_t (by decide)) (by decide) rfl <| o_iload W22 139 (hb hy at_137) rfl rfl <| o_iconst W22 (v := 1) 140 (hb hy at_139) rfl rfl <| o_icmpY W22 148 (hb hy at_140) (XT.ii_ne_t (by decide)) (by decide) rfl <| o_iload W22 150 (hb hy at_148) rfl rfl ?_
      refine o_iconst W22 (v := 2) 151 (hb hy at_150) rfl rfl <| o_icmpY W22 159 (hb hy at_151) (XT.ii_ne_t (by decide)) (by decide) rfl <| o_iload W22 161 (hb hy at_159) rfl rfl <| o_iconst W22 (v := 3) 162 (hb hy at_161) rfl rfl <| o_icmpN W22 165 (hb hy at_162) (XT.ii_ne_f (by decide)) rfl <| o_aload W22 167 (hb hy at_165) rfl rfl rfl ?_
      refine o_goto W22 172 (hb hy at_167) (by decide) rfl <| o_astore W22 (L' := #[vi p0, vi p1, vi p2, vi p3, vi p4, vi 3, vi fl, vi r1_4, vi r1_5, vi r1_6, vi r1_7, vr b8, vr b9, vr b11, vr b14, vr b18, vr b14, un, un, un, un, un]) 174 (hb hy at_172) rfl rfl rfl ?_
      refine o_new W22 (w6 hw) (w7 hw) (w8 hw) (fun _ E => IW.ext E W22.inv) 177 (hb hy at_174) rfl (cells' := 6) (slots' := 14) rfl rfl (by decide) (by decide) ?_
      intro b63 T63 h63 W63 E63 ge63 gz63 gb63 A63 D63
      have Fb63_value : Fld Z h63 b63 s0 "value" "[B" .null := D63 (Or.inr (w21 hw)) (ty := (.array .byte)) (by decide)
      have Fb63_coder : Fld Z h63 b63 s0 "coder" "B" iZ := D63 (Or.inr (w22 hw)) (ty := .byte) (by decide)
      refine o_dup W63 178 (hb hy at_177) rfl rfl <| o_aload W63 180 (hb hy at_178) rfl rfl rfl ?_
      have c64 := ((((((V17.ext E18).other R19 (own_ne V17.lt ge18)).other R20 (own_ne V17.lt ge18)).other R21 (own_ne V17.lt ge18)).other R22 (own_ne V17.lt ge18)).ext E63)
      have sf65 := own_safeS (EL := consts_1) W63.al A63 Fb63_value
      refine o_specialC W63 rfl (w9 hw) (w10 hw) (w11 hw) (by decide) (w8 hw) (rm135 l hw gCS gF b63 b14 k14 r1_4 r1_5 r1_6 h63 W63.old c64 SgCS NgCS P4_0 P5_0 P6_0 A63 Fb63_coder Fb63_value gz63 SgF NgF z0 z1 z2) 1 8 23 (by decide) (by rw [hml]; rfl) (lenOf pd2 rfl) [(.ref b63)] rfl rfl 183 (hb hy at_180) rfl rfl rfl (allS ⟨gz63, (Or.inr gb63)⟩ all0) (fun _ K => IW.keep K (sfS sf65 sf0) W63.inv) ?_
      intro v66 T66 h66 lo66 W66 K66 q66
      obtain ⟨P66_0, rfl⟩ := q66.2.2
      show Gl _ _ _ _ _ _ _ _ [(.ref b63)]
      refine o_astore W66 (L' := #[vi p0, vi p1, vi p2, vi p3, vi p4, vi 3, vi fl, vi r1_4, vi r1_5, vi r1_6, vi r1_7, vr b8, vr b9, vr b11, vr b14, vr b18, vr b14, vr b63, un, un, un, un]) 185 (hb hy at_183) rfl rfl rfl <| o_aload W66 187 (hb hy at_185) rfl rfl rfl ?_
      by_cases hq67 : (own_okc r1_4) = (0 : Int32)
      · have c68 := (A63.keep K66)
        refine o_staticC W66 (w27 hw) (w28 hw) (w29 hw) (w30 hw) (by decide) (rm136 l hw b63 r1_4 r1_5 r1_6 h66 W66.old c68 P66_0 hq67) 0 8 23 (by decide) (by rw [hml]; rfl) (lenOf pd4 rfl) [] rfl rfl 190 (hb hy at_187) rfl rfl rfl all0 (fun _ K => IW.keep K sf0 W66.inv) ?_
        intro v69 T69 h69 lo69 W69 K69 q69
        obtain rfl := q69.2.2
        show Gl _ _ _ _ _ _ _ _ [iZ]
        refine o_istore W69 (L' := #[vi p0, vi p1, vi p2, vi p3, vi p4, vi 3, vi fl, vi r1_4, vi r1_5, vi r1_6, vi r1_7, vr b8, vr b9, vr b11, vr b14, vr b18, vr b14, vr b63, vi 0, un, un, un]) 192 (hb hy at_190) rfl rfl <| o_iload W69 194 (hb hy at_192) rfl rfl <| o_iconst W69 (v := 1) 195 (hb hy at_194) rfl rfl <| o_icmpN W69 198 (hb hy at_195) (XT.ii_lt_f (by decide)) rfl <| o_iload W69 200 (hb hy at_198) rfl rfl <| o_iconst W69 (v := 1) 201 (hb hy at_200) rfl rfl ?_
        refine o_icmpN W69 204 (hb hy at_201) (XT.ii_lt_f (by decide)) rfl <| o_iload W69 206 (hb hy at_204) rfl rfl ?_
        refine o_staticC W69 (w81 hw) (w82 hw) (w3 hw) (w83 hw) (by decide) (rm1 l hw r1_4 h69 W69.old P4_0) 0 8 23 (by decide) (by rw [hml]; rfl) (lenOf pd19 rfl) [] rfl rfl 209 (hb hy at_206) rfl rfl rfl all0 (fun _ K => IW.keep K sf0 W69.inv) ?_
        intro v70 T70 h70 lo70 W70 K70 q70
        obtain rfl := q70.2.2
        show Gl _ _ _ _ _ _ _ _ [(.int (own_okc r1_4))]
        refine o_ifY W70 258 (hb hy at_209) (XT.i0_eq_t hq67) (by decide) rfl <| o_iconst W70 (v := 0) 259 (hb hy at_258) rfl rfl <| o_istore W70 (L' := #[vi p0, vi p1, vi p2, vi p3, vi p4, vi 3, vi fl, vi r1_4, vi r1_5, vi r1_6, vi r1_7, vr b8, vr b9, vr b11, vr b14, vr b18, vr b14, vr b63, vi 0, vi 0, un, un]) 261 (hb hy at_259) rfl rfl ?_
        exact KT _ _ _ _ _ _ W70 (by decide) (by decide) ((3 : Int32), b14, b63, (0 : Int32))
      · by_cases hq71 : (own_okc r1_5) = (0 : Int32)
        · have c72 := (A63.keep K66)
          refine o_staticC W66 (w27 hw) (w28 hw) (w29 hw) (w30 hw) (by decide) (rm137 l hw b63 r1_4 r1_5 r1_6 h66 W66.old c72 P66_0 hq67 hq71) 0 8 23 (by decide) (by rw [hml]; rfl) (lenOf pd4 rfl) [] rfl rfl 190 (hb hy at_187) rfl rfl rfl all0 (fun _ K => IW.keep K sf0 W66.inv) ?_
          intro v73 T73 h73 lo73 W73 K73 q73
          obtain rfl := q73.2.2
          show Gl _ _ _ _ _ _ _ _ [iZ]
          refine o_istore W73 (L' := #[vi p0, vi p1, vi p2, vi p3, vi p4, vi 3, vi fl, vi r1_4, vi r1_5, vi r1_6, vi r1_7, vr b8, vr b9, vr b11, vr b14, vr b18, vr b14, vr b63, vi 0, un, un, un]) 192 (hb hy at_190) rfl rfl <| o_iload W73 194 (hb hy at_192) rfl rfl <| o_iconst W73 (v := 1) 195 (hb hy at_194) rfl rfl <| o_icmpN W73 198 (hb hy at_195) (XT.ii_lt_f (by decide)) rfl <| o_iload W73 200 (hb hy at_198) rfl rfl <| o_iconst W73 (v := 1) 201 (hb hy at_200) rfl rfl ?_
          refine o_icmpN W73 204 (hb hy at_201) (XT.ii_lt_f (by decide)) rfl <| o_iload W73 206 (hb hy at_204) rfl rfl ?_
          refine o_staticC W73 (w81 hw) (w82 hw) (w3 hw) (w83 hw) (by decide) (rm1 l hw r1_4 h73 W73.old P4_0) 0 8 23 (by decide) (by rw [hml]; rfl) (lenOf pd19 rfl) [] rfl rfl 209 (hb hy at_206) rfl rfl rfl all0 (fun _ K => IW.keep K sf0 W73.inv) ?_
          intro v74 T74 h74 lo74 W74 K74 q74
          obtain rfl := q74.2.2
          show Gl _ _ _ _ _ _ _ _ [(.int (own_okc r1_4))]
          refine o_ifN W74 212 (hb hy at_209) (XT.i0_eq_f hq67) rfl <| o_iload W74 214 (hb hy at_212) rfl rfl <| o_iconst W74 (v := 2) 215 (hb hy at_214) rfl rfl <| o_icmpN W74 218 (hb hy at_215) (XT.ii_lt_f (by decide)) rfl <| o_iload W74 220 (hb hy at_218) rfl rfl ?_
          refine o_staticC W74 (w81 hw) (w82 hw) (w3 hw) (w83 hw) (by decide) (rm1 l hw r1_5 h74 W74.old P5_0) 0 8 23 (by decide) (by rw [hml]; rfl) (lenOf pd19 rfl) [] rfl rfl 223 (hb hy at_220) rfl rfl rfl all0 (fun _ K => IW.keep K sf0 W74.inv) ?_
          intro v75 T75 h75 lo75 W75 K75 q75
          obtain rfl := q75.2.2
          show Gl _ _ _ _ _ _ _ _ [(.int (own_okc r1_5))]
          refine o_ifY W75 258 (hb hy at_223) (XT.i0_eq_t hq71) (by decide) rfl <| o_iconst W75 (v := 0) 259 (hb hy at_258) rfl rfl <| o_istore W75 (L' := #[vi p0, vi p1, vi p2, vi p3, vi p4, vi 3, vi fl, vi r1_4, vi r1_5, vi r1_6, vi r1_7, vr b8, vr b9, vr b11, vr b14, vr b18, vr b14, vr b63, vi 0, vi 0, un, un]) 261 (hb hy at_259) rfl rfl ?_
          exact KT _ _ _ _ _ _ W75 (by decide) (by decide) ((3 : Int32), b14, b63, (0 : Int32))
        · by_cases hq76 : (own_okc r1_6) = (0 : Int32)
          · have c77 := (A63.keep K66)
            refine o_staticC W66 (w27 hw) (w28 hw) (w29 hw) (w30 hw) (by decide) (rm138 l hw b63 r1_4 r1_5 r1_6 h66 W66.old c77 P66_0 hq67 hq71 hq76) 0 8 23 (by decide) (by rw [hml]; rfl) (lenOf pd4 rfl) [] rfl rfl 190 (hb hy at_187) rfl rfl rfl all0 (fun _ K => IW.keep K sf0 W66.inv) ?_
            intro v78 T78 h78 lo78 W78 K78 q78
            obtain rfl := q78.2.2
            show Gl _ _ _ _ _ _ _ _ [iZ]
            refine o_istore W78 (L' := #[vi p0, vi p1, vi p2, vi p3, vi p4, vi 3, vi fl, vi r1_4, vi r1_5, vi r1_6, vi r1_7, vr b8, vr b9, vr b11, vr b14, vr b18, vr b14, vr b63, vi 0, un, un, un]) 192 (hb hy at_190) rfl rfl <| o_iload W78 194 (hb hy at_192) rfl rfl <| o_iconst W78 (v := 1) 195 (hb hy at_194) rfl rfl <| o_icmpN W78 198 (hb hy at_195) (XT.ii_lt_f (by decide)) rfl <| o_iload W78 200 (hb hy at_198) rfl rfl <| o_iconst W78 (v := 1) 201 (hb hy at_200) rfl rfl ?_
            refine o_icmpN W78 204 (hb hy at_201) (XT.ii_lt_f (by decide)) rfl <| o_iload W78 206 (hb hy at_204) rfl rfl ?_
            refine o_staticC W78 (w81 hw) (w82 hw) (w3 hw) (w83 hw) (by decide) (rm1 l hw r1_4 h78 W78.old P4_0) 0 8 23 (by decide) (by rw [hml]; rfl) (lenOf pd19 rfl) [] rfl rfl 209 (hb hy at_206) rfl rfl rfl all0 (fun _ K => IW.keep K sf0 W78.inv) ?_
            intro v79 T79 h79 lo79 W79 K79 q79
            obtain rfl := q79.2.2
            show Gl _ _ _ _ _ _ _ _ [(.int (own_okc r1_4))]
            refine o_ifN W79 212 (hb hy at_209) (XT.i0_eq_f hq67) rfl <| o_iload W79 214 (hb hy at_212) rfl rfl <| o_iconst W79 (v := 2) 215 (hb hy at_214) rfl rfl <| o_icmpN W79 218 (hb hy at_215) (XT.ii_lt_f (by decide)) rfl <| o_iload W79 220 (hb hy at_218) rfl rfl ?_
            refine o_staticC W79 (w81 hw) (w82 hw) (w3 hw) (w83 hw) (by decide) (rm1 l hw r1_5 h79 W79.old P5_0) 0 8 23 (by decide) (by rw [hml]; rfl) (lenOf pd19 rfl) [] rfl rfl 223 (hb hy at_220) rfl rfl rfl all0 (fun _ K => IW.keep K sf0 W79.inv) ?_
            intro v80 T80 h80 lo80 W80 K80 q80
            obtain rfl := q80.2.2
            show Gl _ _ _ _ _ _ _ _ [(.int (own_okc r1_5))]
            refine o_ifN W80 226 (hb hy at_223) (XT.i0_eq_f hq71) rfl <| o_iload W80 228 (hb hy at_226) rfl rfl <| o_iconst W80 (v := 3) 229 (hb hy at_228) rfl rfl <| o_icmpN W80 232 (hb hy at_229) (XT.ii_lt_f (by decide)) rfl <| o_iload W80 234 (hb hy at_232) rfl rfl ?_
            refine o_staticC W80 (w81 hw) (w82 hw) (w3 hw) (w83 hw) (by decide) (rm1 l hw r1_6 h80 W80.old P6_0) 0 8 23 (by decide) (by rw [hml]; rfl) (lenOf pd19 rfl) [] rfl rfl 237 (hb hy at_234) rfl rfl rfl all0 (fun _ K => IW.keep K sf0 W80.inv) ?_
            intro v81 T81 h81 lo81 W81 K81 q81
            obtain rfl := q81.2.2
            show Gl _ _ _ _ _ _ _ _ [(.int (own_okc r1_6))]
            refine o_ifY W81 258 (hb hy at_237) (XT.i0_eq_t hq76) (by decide) rfl <| o_iconst W81 (v := 0) 259 (hb hy at_258) rfl rfl <| o_istore W81 (L' := #[vi p0, vi p1, vi p2, vi p3, vi p4, vi 3, vi fl, vi r1_4, vi r1_5, vi r1_6, vi r1_7, vr b8, vr b9, vr b11, vr b14, vr b18, vr b14, vr b63, vi 0, vi 0, un, un]) 261 (hb hy at_259) rfl rfl ?_
            exact KT _ _ _ _ _ _ W81 (by decide) (by decide) ((3 : Int32), b14, b63, (0 : Int32))
          · have c82 := (A63.keep K66)
            refine o_staticC W66 (w27 hw) (w28 hw) (w29 hw) (w30 hw) (by decide) (rm139 l hw b63 r1_4 r1_5 r1_6 h66 W66.old c82 P66_0 hq67 hq71 hq76) 0 8 23 (by decide) (by rw [hml]; rfl) (lenOf pd4 rfl) [] rfl rfl 190 (hb hy at_187) rfl rfl rfl all0 (fun _ K => IW.keep K sf0 W66.inv) ?_
            intro v83 T83 h83 lo83 W83 K83 q83
            obtain rfl := q83.2.2
            show Gl _ _ _ _ _ _ _ _ [(.int 1)]
            refine o_istore W83 (L' := #[vi p0, vi p1, vi p2, vi p3, vi p4, vi 3, vi fl, vi r1_4, vi r1_5, vi r1_6, vi r1_7, vr b8, vr b9, vr b11, vr b14, vr b18, vr b14, vr b63, vi 1, un, un, un]) 192 (hb hy at_190) rfl rfl <| o_iload W83 194 (hb hy at_192) rfl rfl <| o_iconst W83 (v := 1) 195 (hb hy at_194) rfl rfl <| o_icmpN W83 198 (hb hy at_195) (XT.ii_lt_f (by decide)) rfl <| o_iload W83 200 (hb hy at_198) rfl rfl <| o_iconst W83 (v := 1) 201 (hb hy at_200) rfl rfl ?_
            refine o_icmpN W83 204 (hb hy at_201) (XT.ii_lt_f (by decide)) rfl <| o_iload W83 206 (hb hy at_204) rfl rfl ?_
            refine o_staticC W83 (w81 hw) (w82 hw) (w3 hw) (w83 hw) (by decide) (rm1 l hw r1_4 h83 W83.old P4_0) 0 8 23 (by decide) (by rw [hml]; rfl) (lenOf pd19 rfl) [] rfl rfl 209 (hb hy at_206) rfl rfl rfl all0 (fun _ K => IW.keep K sf0 W83.inv) ?_
            intro v84 T84 h84 lo84 W84 K84 q84
            obtain rfl := q84.2.2
            show Gl _ _ _ _ _ _ _ _ [(.int (own_okc r1_4))]
            refine o_ifN W84 212 (hb hy at_209) (XT.i0_eq_f hq67) rfl <| o_iload W84 214 (hb hy at_212) rfl rfl <| o_iconst W84 (v := 2) 215 (hb hy at_214) rfl rfl <| o_icmpN W84 218 (hb hy at_215) (XT.ii_lt_f (by decide)) rfl <| o_iload W84 220 (hb hy at_218) rfl rfl ?_
            refine o_staticC W84 (w81 hw) (w82 hw) (w3 hw) (w83 hw) (by decide) (rm1 l hw r1_5 h84 W84.old P5_0) 0 8 23 (by decide) (by rw [hml]; rfl) (lenOf pd19 rfl) [] rfl rfl 223 (hb hy at_220) rfl rfl rfl all0 (fun _ K => IW.keep K sf0 W84.inv) ?_
            intro v85 T85 h85 lo85 W85 K85 q85
            obtain rfl := q85.2.2
            show Gl _ _ _ _ _ _ _ _ [(.int (own_okc r1_5))]
            refine o_ifN W85 226 (hb hy at_223) (XT.i0_eq_f hq71) rfl <| o_iload W85 228 (hb hy at_226) rfl rfl <| o_iconst W85 (v := 3) 229 (hb hy at_228) rfl rfl <| o_icmpN W85 232 (hb hy at_229) (XT.ii_lt_f (by decide)) rfl <| o_iload W85 234 (hb hy at_232) rfl rfl ?_
            refine o_staticC W85 (w81 hw) (w82 hw) (w3 hw) (w83 hw) (by decide) (rm1 l hw r1_6 h85 W85.old P6_0) 0 8 23 (by decide) (by rw [hml]; rfl) (lenOf pd19 rfl) [] rfl rfl 237 (hb hy at_234) rfl rfl rfl all0 (fun _ K => IW.keep K sf0 W85.inv) ?_
            intro v86 T86 h86 lo86 W86 K86 q86
            obtain rfl := q86.2.2
            show Gl _ _ _ _ _ _ _ _ [(.int (own_okc r1_6))]
            refine o_ifN W86 240 (hb hy at_237) (XT.i0_eq_f hq76) rfl <| o_iload W86 242 (hb hy at_240) rfl rfl <| o_iconst W86 (v := 4) 243 (hb hy at_242) rfl rfl <| o_icmpY W86 254 (hb hy at_243) (XT.ii_lt_t (by decide)) (by decide) rfl <| o_iconst W86 (v := 1) 255 (hb hy at_254) rfl rfl <| o_goto W86 259 (hb hy at_255) (by decide) rfl ?_
            refine o_istore W86 (L' := #[vi p0, vi p1, vi p2, vi p3, vi p4, vi 3, vi fl, vi r1_4, vi r1_5, vi r1_6, vi r1_7, vr b8, vr b9, vr b11, vr b14, vr b18, vr b14, vr b63, vi 1, vi 1, un, un]) 261 (hb hy at_259) rfl rfl ?_
            exact KT _ _ _ _ _ _ W86 (by decide) (by decide) ((3 : Int32), b14, b63, (1 : Int32))
    · rw [ek23]
      refine o_iload W22 129 (hb hy at_127) rfl rfl <| o_ifY W22 137 (hb hy at_129) (XT.i0_ne_t (by decide)) (by decide) rfl <| o_iload W22 139 (hb hy at_137) rfl rfl <| o_iconst W22 (v := 1) 140 (hb hy at_139) rfl rfl <| o_icmpY W22 148 (hb hy at_140) (XT.ii_ne_t (by decide)) (by decide) rfl <| o_iload W22 150 (hb hy at_148) rfl rfl ?_
      refine o_iconst W22 (v := 2) 151 (hb hy at_150) rfl rfl <| o_icmpY W22 159 (hb hy at_151) (XT.ii_ne_t (by decide)) (by decide) rfl <| o_iload W22 161 (hb hy at_159) rfl rfl <| o_iconst W22 (v := 3) 162 (hb hy at_161) rfl rfl <| o_icmpY W22 170 (hb hy at_162) (XT.ii_ne_t (by decide)) (by decide) rfl <| o_aload W22 172 (hb hy at_170) rfl rfl rfl ?_
      refine o_astore W22 (L' := #[vi p0, vi p1, vi p2, vi p3, vi p4, vi 4, vi fl, vi r1_4, vi r1_5, vi r1_6, vi r1_7, vr b8, vr b9, vr b11, vr b14, vr b18, vr b18, un, un, un, un, un]) 174 (hb hy at_172) rfl rfl rfl ?_
      refine o_new W22 (w6 hw) (w7 hw) (w8 hw) (fun _ E => IW.ext E W22.inv) 177 (hb hy at_174) rfl (cells' := 6) (slots' := 14) rfl rfl (by decide) (by decide) ?_
      intro b87 T87 h87 W87 E87 ge87 gz87 gb87 A87 D87
      have Fb87_value : Fld Z h87 b87 s0 "value" "[B" .null := D87 (Or.inr (w21 hw)) (ty := (.array .byte)) (by decide)
      have Fb87_coder : Fld Z h87 b87 s0 "coder" "B" iZ := D87 (Or.inr (w22 hw)) (ty := .byte) (by decide)
      refine o_dup W87 178 (hb hy at_177) rfl rfl <| o_aload W87 180 (hb hy at_178) rfl rfl rfl ?_
      have c88 := (V22.ext E87)
      have sf89 := own_safeS (EL := consts_1) W87.al A87 Fb87_value
      refine o_specialC W87 rfl (w9 hw) (w10 hw) (w11 hw) (by decide) (w8 hw) (rm205 l hw gCS gF b87 b18 k18 r1_4 r1_5 r1_6 r1_7 h87 W87.old c88 SgCS NgCS P4_0 P5_0 P6_0 P7_0 A87 Fb87_coder Fb87_value gz87 SgF NgF z0 z1 z2) 1 8 26 (by decide) (by rw [hml]; rfl) (lenOf pd2 rfl) [(.ref b87)] rfl rfl 183 (hb hy at_180) rfl rfl rfl (allS ⟨gz87, (Or.inr gb87)⟩ all0) (fun _ K => IW.keep K (sfS sf89 sf0) W87.inv) ?_
      intro v90 T90 h90 lo90 W90 K90 q90
      obtain ⟨P90_0, rfl⟩ := q90.2.2
      show Gl _ _ _ _ _ _ _ _ [(.ref b87)]
      refine o_astore W90 (L' := #[vi p0, vi p1, vi p2, vi p3, vi p4, vi 4, vi fl, vi r1_4, vi r1_5, vi r1_6, vi r1_7, vr b8, vr b9, vr b11, vr b14, vr b18, vr b18, vr b87, un, un, un, un]) 185 (hb hy at_183) rfl rfl rfl <| o_aload W90 187 (hb hy at_185) rfl rfl rfl ?_
      by_cases hq91 : (own_okc r1_4) = (0 : Int32)
      · have c92 := (A87.keep K90)
        refine o_staticC W90 (w27 hw) (w28 hw) (w29 hw) (w30 hw) (by decide) (rm206 l hw b87 r1_4 r1_5 r1_6 r1_7 h90 W90.old c92 P90_0 hq91) 0 8 26 (by decide) (by rw [hml]; rfl) (lenOf pd4 rfl) [] rfl rfl 190 (hb hy at_187) rfl rfl rfl all0 (fun _ K => IW.keep K sf0 W90.inv) ?_
        intro v93 T93 h93 lo93 W93 K93 q93
        obtain rfl := q93.2.2
        show Gl _ _ _ _ _ _ _ _ [iZ]
        refine o_istore W93 (L' := #[vi p0, vi p1, vi p2, vi p3, vi p4, vi 4, vi fl, vi r1_4, vi r1_5, vi r1_6, vi r1_7, vr b8, vr b9, vr b11, vr b14, vr b18, vr b18, vr b87, vi 0, un, un, un]) 192 (hb hy at_190) rfl rfl <| o_iload W93 194 (hb hy at_192) rfl rfl <| o_iconst W93 (v := 1) 195 (hb hy at_194) rfl rfl <| o_icmpN W93 198 (hb hy at_195) (XT.ii_lt_f (by decide)) rfl <| o_iload W93 200 (hb hy at_198) rfl rfl <| o_iconst W93 (v := 1) 201 (hb hy at_200) rfl rfl ?_
        refine o_icmpN W93 204 (hb hy at_201) (XT.ii_lt_f (by decide)) rfl <| o_iload W93 206 (hb hy at_204) rfl rfl ?_
        refine o_staticC W93 (w81 hw) (w82 hw) (w3 hw) (w83 hw) (by decide) (rm1 l hw r1_4 h93 W93.old P4_0) 0 8 26 (by decide) (by rw [hml]; rfl) (lenOf pd19 rfl) [] rfl rfl 209 (hb hy at_206) rfl rfl rfl all0 (fun _ K => IW.keep K sf0 W93.inv) ?_
        intro v94 T94 h94 lo94 W94 K94 q94
        obtain rfl := q94.2.2
        show Gl _ _ _ _ _ _ _ _ [(.int (own_okc r1_4))]
        refine o_ifY W94 258 (hb hy at_209) (XT.i0_eq_t hq91) (by decide) rfl <| o_iconst W94 (v := 0) 259 (hb hy at_258) rfl rfl <| o_istore W94 (L' := #[vi p0, vi p1, vi p2, vi p3, vi p4, vi 4, vi fl, vi r1_4, vi r1_5, vi r1_6, vi r1_7, vr b8, vr b9, vr b11, vr b14, vr b18, vr b18, vr b87, vi 0, vi 0, un, un]) 261 (hb hy at_259) rfl rfl ?_
        exact KT _ _ _ _ _ _ W94 (by decide) (by decide) ((4 : Int32), b18, b87, (0 : Int32))
      · by_cases hq95 : (own_okc r1_5) = (0 : Int32)
        · have c96 := (A87.keep K90)
          refine o_staticC W90 (w27 hw) (w28 hw) (w29 hw) (w30 hw) (by decide) (rm207 l hw b87 r1_4 r1_5 r1_6 r1_7 h90 W90.old c96 P90_0 hq91 hq95) 0 8 26 (by decide) (by rw [hml]; rfl) (lenOf pd4 rfl) [] rfl rfl 190 (hb hy at_187) rfl rfl rfl all0 (fun _ K => IW.keep K sf0 W90.inv) ?_
          intro v97 T97 h97 lo97 W97 K97 q97
          obtain rfl := q97.2.2
          show Gl _ _ _ _ _ _ _ _ [iZ]
          refine o_istore W97 (L' := #[vi p0, vi p1, vi p2, vi p3, vi p4, vi 4, vi fl, vi r1_4, vi r1_5, vi r1_6, vi r1_7, vr b8, vr b9, vr b11, vr b14, vr b18, vr b18, vr b87, vi 0, un, un, un]) 192 (hb hy at_190) rfl rfl <| o_iload W97 194 (hb hy at_192) rfl rfl <| o_iconst W97 (v := 1) 195 (hb hy at_194) rfl rfl <| o_icmpN W97 198 (hb hy at_195) (XT.ii_lt_f (by decide)) rfl <| o_iload W97 200 (hb hy at_198) rfl rfl <| o_iconst W97 (v := 1) 201 (hb hy at_200) rfl rfl ?_
          refine o_icmpN W97 204 (hb hy at_201) (XT.ii_lt_f (by decide)) rfl <| o_iload W97 206 (hb hy at_204) rfl rfl ?_
          refine o_staticC W97 (w81 hw) (w82 hw) (w3 hw) (w83 hw) (by decide) (rm1 l hw r1_4 h97 W97.old P4_0) 0 8 26 (by decide) (by rw [hml]; rfl) (lenOf pd19 rfl) [] rfl rfl 209 (hb hy at_206) rfl rfl rfl all0 (fun _ K => IW.keep K sf0 W97.inv) ?_
          intro v98 T98 h98 lo98 W98 K98 q98
          obtain rfl := q98.2.2
          show Gl _ _ _ _ _ _ _ _ [(.int (own_okc r1_4))]
          refine o_ifN W98 212 (hb hy at_209) (XT.i0_eq_f hq91) rfl <| o_iload W98 214 (hb hy at_212) rfl rfl <| o_iconst W98 (v := 2) 215 (hb hy at_214) rfl rfl <| o_icmpN W98 218 (hb hy at_215) (XT.ii_lt_f (by decide)) rfl <| o_iload W98 220 (hb hy at_218) rfl rfl ?_
          refine o_staticC W98 (w81 hw) (w82 hw) (w3 hw) (w83 hw) (by decide) (rm1 l hw r1_5 h98 W98.old P5_0) 0 8 26 (by decide) (by rw [hml]; rfl) (lenOf pd19 rfl) [] rfl rfl 223 (hb hy at_220) rfl rfl rfl all0 (fun _ K => IW.keep K sf0 W98.inv) ?_
          intro v99 T99 h99 lo99 W99 K99 q99
          obtain rfl := q99.2.2
          show Gl _ _ _ _ _ _ _ _ [(.int (own_okc r1_5))]
          refine o_ifY W99 258 (hb hy at_223) (XT.i0_eq_t hq95) (by decide) rfl <| o_iconst W99 (v := 0) 259 (hb hy at_258) rfl rfl <| o_istore W99 (L' := #[vi p0, vi p1, vi p2, vi p3, vi p4, vi 4, vi fl, vi r1_4, vi r1_5, vi r1_6, vi r1_7, vr b8, vr b9, vr b11, vr b14, vr b18, vr b18, vr b87, vi 0, vi 0, un, un]) 261 (hb hy at_259) rfl rfl ?_
          exact KT _ _ _ _ _ _ W99 (by decide) (by decide) ((4 : Int32), b18, b87, (0 : Int32))
        · by_cases hq100 : (own_okc r1_6) = (0 : Int32)
          · have c101 := (A87.keep K90)
            refine o_staticC W90 (w27 hw) (w28 hw) (w29 hw) (w30 hw) (by decide) (rm208 l hw b87 r1_4 r1_5 r1_6 r1_7 h90 W90.old c101 P90_0 hq91 hq95 hq100) 0 8 26 (by decide) (by rw [hml]; rfl) (lenOf pd4 rfl) [] rfl rfl 190 (hb hy at_187) rfl rfl rfl all0 (fun _ K => IW.keep K sf0 W90.inv) ?_
            intro v102 T102 h102 lo102 W102 K102 q102
            obtain rfl := q102.2.2
            show Gl _ _ _ _ _ _ _ _ [iZ]
            refine o_istore W102 (L' := #[vi p0, vi p1, vi p2, vi p3, vi p4, vi 4, vi fl, vi r1_4, vi r1_5, vi r1_6, vi r1_7, vr b8, vr b9, vr b11, vr b14, vr b18, vr b18, vr b87, vi 0, un, un, un]) 192 (hb hy at_190) rfl rfl <| o_iload W102 194 (hb hy at_192) rfl rfl <| o_iconst W102 (v := 1) 195 (hb hy at_194) rfl rfl <| o_icmpN W102 198 (hb hy at_195) (XT.ii_lt_f (by decide)) rfl <| o_iload W102 200 (hb hy at_198) rfl rfl <| o_iconst W102 (v := 1) 201 (hb hy at_200) rfl rfl ?_
            refine o_icmpN W102 204 (hb hy at_201) (XT.ii_lt_f (by decide)) rfl <| o_iload W102 206 (hb hy at_204) rfl rfl ?_
            refine o_staticC W102 (w81 hw) (w82 hw) (w3 hw) (w83 hw) (by decide) (rm1 l hw r1_4 h102 W102.old P4_0) 0 8 26 (by decide) (by rw [hml]; rfl) (lenOf pd19 rfl) [] rfl rfl 209 (hb hy at_206) rfl rfl rfl all0 (fun _ K => IW.keep K sf0 W102.inv) ?_
            intro v103 T103 h103 lo103 W103 K103 q103
            obtain rfl := q103.2.2
            show Gl _ _ _ _ _ _ _ _ [(.int (own_okc r1_4))]
            refine o_ifN W103 212 (hb hy at_209) (XT.i0_eq_f hq91) rfl <| o_iload W103 214 (hb hy at_212) rfl rfl <| o_iconst W103 (v := 2) 215 (hb hy at_214) rfl rfl <| o_icmpN W103 218 (hb hy at_215) (XT.ii_lt_f (by decide)) rfl <| o_iload W103 220 (hb hy at_218) rfl rfl ?_
            refine o_staticC W103 (w81 hw) (w82 hw) (w3 hw) (w83 hw) (by decide) (rm1 l hw r1_5 h103 W103.old P5_0) 0 8 26 (by decide) (by rw [hml]; rfl) (lenOf pd19 rfl) [] rfl rfl 223 (hb hy at_220) rfl rfl rfl all0 (fun _ K => IW.keep K sf0 W103.inv) ?_
            intro v104 T104 h104 lo104 W104 K104 q104
            obtain rfl := q104.2.2
            show Gl _ _ _ _ _ _ _ _ [(.int (own_okc r1_5))]
            refine o_ifN W104 226 (hb hy at_223) (XT.i0_eq_f hq95) rfl <| o_iload W104 228 (hb hy at_226) rfl rfl <| o_iconst W104 (v := 3) 229 (hb hy at_228) rfl rfl <| o_icmpN W104 232 (hb hy at_229) (XT.ii_lt_f (by decide)) rfl <| o_iload W104 234 (hb hy at_232) rfl rfl ?_
            refine o_staticC W104 (w81 hw) (w82 hw) (w3 hw) (w83 hw) (by decide) (rm1 l hw r1_6 h104 W104.old P6_0) 0 8 26 (by decide) (by rw [hml]; rfl) (lenOf pd19 rfl) [] rfl rfl 237 (hb hy at_234) rfl rfl rfl all0 (fun _ K => IW.keep K sf0 W104.inv) ?_
            intro v105 T105 h105 lo105 W105 K105 q105
            obtain rfl := q105.2.2
            show Gl _ _ _ _ _ _ _ _ [(.int (own_okc r1_6))]
            refine o_ifY W105 258 (hb hy at_237) (XT.i0_eq_t hq100) (by decide) rfl <| o_iconst W105 (v := 0) 259 (hb hy at_258) rfl rfl <| o_istore W105 (L' := #[vi p0, vi p1, vi p2, vi p3, vi p4, vi 4, vi fl, vi r1_4, vi r1_5, vi r1_6, vi r1_7, vr b8, vr b9, vr b11, vr b14, vr b18, vr b18, vr b87, vi 0, vi 0, un, un]) 261 (hb hy at_259) rfl rfl ?_
            exact KT _ _ _ _ _ _ W105 (by decide) (by decide) ((4 : Int32), b18, b87, (0 : Int32))
          · by_cases hq106 : (own_okc r1_7) = (0 : Int32)
            · have c107 := (A87.keep K90)
              refine o_staticC W90 (w27 hw) (w28 hw) (w29 hw) (w30 hw) (by decide) (rm209 l hw b87 r1_4 r1_5 r1_6 r1_7 h90 W90.old c107 P90_0 hq91 hq95 hq100 hq106) 0 8 26 (by decide) (by rw [hml]; rfl) (lenOf pd4 rfl) [] rfl rfl 190 (hb hy at_187) rfl rfl rfl all0 (fun _ K => IW.keep K sf0 W90.inv) ?_
              intro v108 T108 h108 lo108 W108 K108 q108
              obtain rfl := q108.2.2
              show Gl _ _ _ _ _ _ _ _ [iZ]
              refine o_istore W108 (L' := #[vi p0, vi p1, vi p2, vi p3, vi p4, vi 4, vi fl, vi r1_4, vi r1_5, vi r1_6, vi r1_7, vr b8, vr b9, vr b11, vr b14, vr b18, vr b18, vr b87, vi 0, un, un, un]) 192 (hb hy at_190) rfl rfl <| o_iload W108 194 (hb hy at_192) rfl rfl <| o_iconst W108 (v := 1) 195 (hb hy at_194) rfl rfl <| o_icmpN W108 198 (hb hy at_195) (XT.ii_lt_f (by decide)) rfl <| o_iload W108 200 (hb hy at_198) rfl rfl <| o_iconst W108 (v := 1) 201 (hb hy at_200) rfl rfl ?_
              refine o_icmpN W108 204 (hb hy at_201) (XT.ii_lt_f (by decide)) rfl <| o_iload W108 206 (hb hy at_204) rfl rfl ?_
              refine o_staticC W108 (w81 hw) (w82 hw) (w3 hw) (w83 hw) (by decide) (rm1 l hw r1_4 h108 W108.old P4_0) 0 8 26 (by decide) (by rw [hml]; rfl) (lenOf pd19 rfl) [] rfl rfl 209 (hb hy at_206) rfl rfl rfl all0 (fun _ K => IW.keep K sf0 W108.inv) ?_
              intro v109 T109 h109 lo109 W109 K109 q109
              obtain rfl := q109.2.2
              show Gl _ _ _ _ _ _ _ _ [(.int (own_okc r1_4))]
              refine o_ifN W109 212 (hb hy at_209) (XT.i0_eq_f hq91) rfl <| o_iload W109 214 (hb hy at_212) rfl rfl <| o_iconst W109 (v := 2) 215 (hb hy at_214) rfl rfl <| o_icmpN W109 218 (hb hy at_215) (XT.ii_lt_f (by decide)) rfl <| o_iload W109 220 (hb hy at_218) rfl rfl ?_
              refine o_staticC W109 (w81 hw) (w82 hw) (w3 hw) (w83 hw) (by decide) (rm1 l hw r1_5 h109 W109.old P5_0) 0 8 26 (by decide) (by rw [hml]; rfl) (lenOf pd19 rfl) [] rfl rfl 223 (hb hy at_220) rfl rfl rfl all0 (fun _ K => IW.keep K sf0 W109.inv) ?_
              intro v110 T110 h110 lo110 W110 K110 q110
              obtain rfl := q110.2.2
              show Gl _ _ _ _ _ _ _ _ [(.int (own_okc r1_5))]
              refine o_ifN W110 226 (hb hy at_223) (XT.i0_eq_f hq95) rfl <| o_iload W110 228 (hb hy at_226) rfl rfl <| o_iconst W110 (v := 3) 229 (hb hy at_228) rfl rfl <| o_icmpN W110 232 (hb hy at_229) (XT.ii_lt_f (by decide)) rfl <| o_iload W110 234 (hb hy at_232) rfl rfl ?_
              refine o_staticC W110 (w81 hw) (w82 hw) (w3 hw) (w83 hw) (by decide) (rm1 l hw r1_6 h110 W110.old P6_0) 0 8 26 (by decide) (by rw [hml]; rfl) (lenOf pd19 rfl) [] rfl rfl 237 (hb hy at_234) rfl rfl rfl all0 (fun _ K => IW.keep K sf0 W110.inv) ?_
              intro v111 T111 h111 lo111 W111 K111 q111
              obtain rfl := q111.2.2
              show Gl _ _ _ _ _ _ _ _ [(.int (own_okc r1_6))]
              refine o_ifN W111 240 (hb hy at_237) (XT.i0_eq_f hq100) rfl <| o_iload W111 242 (hb hy at_240) rfl rfl <| o_iconst W111 (v := 4) 243 (hb hy at_242) rfl rfl <| o_icmpN W111 246 (hb hy at_243) (XT.ii_lt_f (by decide)) rfl <| o_iload W111 248 (hb hy at_246) rfl rfl ?_
              refine o_staticC W111 (w81 hw) (w82 hw) (w3 hw) (w83 hw) (by decide) (rm1 l hw r1_7 h111 W111.old P7_0) 0 8 26 (by decide) (by rw [hml]; rfl) (lenOf pd19 rfl) [] rfl rfl 251 (hb hy at_248) rfl rfl rfl all0 (fun _ K => IW.keep K sf0 W111.inv) ?_
              intro v112 T112 h112 lo112 W112 K112 q112
              obtain rfl := q112.2.2
              show Gl _ _ _ _ _ _ _ _ [(.int (own_okc r1_7))]
              refine o_ifY W112 258 (hb hy at_251) (XT.i0_eq_t hq106) (by decide) rfl <| o_iconst W112 (v := 0) 259 (hb hy at_258) rfl rfl <| o_istore W112 (L' := #[vi p0, vi p1, vi p2, vi p3, vi p4, vi 4, vi fl, vi r1_4, vi r1_5, vi r1_6, vi r1_7, vr b8, vr b9, vr b11, vr b14, vr b18, vr b18, vr b87, vi 0, vi 0, un, un]) 261 (hb hy at_259) rfl rfl ?_
              exact KT _ _ _ _ _ _ W112 (by decide) (by decide) ((4 : Int32), b18, b87, (0 : Int32))
            · have c113 := (A87.keep K90)
              refine o_staticC W90 (w27 hw) (w28 hw) (w29 hw) (w30 hw) (by decide) (rm210 l hw b87 r1_4 r1_5 r1_6 r1_7 h90 W90.old c113 P90_0 hq91 hq95 hq100 hq106) 0 8 26 (by decide) (by rw [hml]; rfl) (lenOf pd4 rfl) [] rfl rfl 190 (hb hy at_187) rfl rfl rfl all0 (fun _ K => IW.keep K sf0 W90.inv) ?_
              intro v114 T114 h114 lo114 W114 K114 q114
              obtain rfl := q114.2.2
              show Gl _ _ _ _ _ _ _ _ [(.int 1)]
              refine o_istore W114 (L' := #[vi p0, vi p1, vi p2, vi p3, vi p4, vi 4, vi fl, vi r1_4, vi r1_5, vi r1_6, vi r1_7, vr b8, vr b9, vr b11, vr b14, vr b18, vr b18, vr b87, vi 1, un, un, un]) 192 (hb hy at_190) rfl rfl <| o_iload W114 194 (hb hy at_192) rfl rfl <| o_iconst W114 (v := 1) 195 (hb hy at_194) rfl rfl <| o_icmpN W114 198 (hb hy at_195) (XT.ii_lt_f (by decide)) rfl <| o_iload W114 200 (hb hy at_198) rfl rfl <| o_iconst W114 (v := 1) 201 (hb hy at_200) rfl rfl ?_
              refine o_icmpN W114 204 (hb hy at_201) (XT.ii_lt_f (by decide)) rfl <| o_iload W114 206 (hb hy at_204) rfl rfl ?_
              refine o_staticC W114 (w81 hw) (w82 hw) (w3 hw) (w83 hw) (by decide) (rm1 l hw r1_4 h114 W114.old P4_0) 0 8 26 (by decide) (by rw [hml]; rfl) (lenOf pd19 rfl) [] rfl rfl 209 (hb hy at_206) rfl rfl rfl all0 (fun _ K => IW.keep K sf0 W114.inv) ?_
              intro v115 T115 h115 lo115 W115 K115 q115
              obtain rfl := q115.2.2
              show Gl _ _ _ _ _ _ _ _ [(.int (own_okc r1_4))]
              refine o_ifN W115 212 (hb hy at_209) (XT.i0_eq_f hq91) rfl <| o_iload W115 214 (hb hy at_212) rfl rfl <| o_iconst W115 (v := 2) 215 (hb hy at_214) rfl rfl <| o_icmpN W115 218 (hb hy at_215) (XT.ii_lt_f (by decide)) rfl <| o_iload W115 220 (hb hy at_218) rfl rfl ?_
              refine o_staticC W115 (w81 hw) (w82 hw) (w3 hw) (w83 hw) (by decide) (rm1 l hw r1_5 h115 W115.old P5_0) 0 8 26 (by decide) (by rw [hml]; rfl) (lenOf pd19 rfl) [] rfl rfl 223 (hb hy at_220) rfl rfl rfl all0 (fun _ K => IW.keep K sf0 W115.inv) ?_
              intro v116 T116 h116 lo116 W116 K116 q116
              obtain rfl := q116.2.2
              show Gl _ _ _ _ _ _ _ _ [(.int (own_okc r1_5))]
              refine o_ifN W116 226 (hb hy at_223) (XT.i0_eq_f hq95) rfl <| o_iload W116 228 (hb hy at_226) rfl rfl <| o_iconst W116 (v := 3) 229 (hb hy at_228) rfl rfl <| o_icmpN W116 232 (hb hy at_229) (XT.ii_lt_f (by decide)) rfl <| o_iload W116 234 (hb hy at_232) rfl rfl ?_
              refine o_staticC W116 (w81 hw) (w82 hw) (w3 hw) (w83 hw) (by decide) (rm1 l hw r1_6 h116 W116.old P6_0) 0 8 26 (by decide) (by rw [hml]; rfl) (lenOf pd19 rfl) [] rfl rfl 237 (hb hy at_234) rfl rfl rfl all0 (fun _ K => IW.keep K sf0 W116.inv) ?_
              intro v117 T117 h117 lo117 W117 K117 q117
              obtain rfl := q117.2.2
              show Gl _ _ _ _ _ _ _ _ [(.int (own_okc r1_6))]
              refine o_ifN W117 240 (hb hy at_237) (XT.i0_eq_f hq100) rfl <| o_iload W117 242 (hb hy at_240) rfl rfl <| o_iconst W117 (v := 4) 243 (hb hy at_242) rfl rfl <| o_icmpN W117 246 (hb hy at_243) (XT.ii_lt_f (by decide)) rfl <| o_iload W117 248 (hb hy at_246) rfl rfl ?_
              refine o_staticC W117 (w81 hw) (w82 hw) (w3 hw) (w83 hw) (by decide) (rm1 l hw r1_7 h117 W117.old P7_0) 0 8 26 (by decide) (by rw [hml]; rfl) (lenOf pd19 rfl) [] rfl rfl 251 (hb hy at_248) rfl rfl rfl all0 (fun _ K => IW.keep K sf0 W117.inv) ?_
              intro v118 T118 h118 lo118 W118 K118 q118
              obtain rfl := q118.2.2
              show Gl _ _ _ _ _ _ _ _ [(.int (own_okc r1_7))]
              refine o_ifN W118 254 (hb hy at_251) (XT.i0_eq_f hq106) rfl <| o_iconst W118 (v := 1) 255 (hb hy at_254) rfl rfl <| o_goto W118 259 (hb hy at_255) (by decide) rfl <| o_istore W118 (L' := #[vi p0, vi p1, vi p2, vi p3, vi p4, vi 4, vi fl, vi r1_4, vi r1_5, vi r1_6, vi r1_7, vr b8, vr b9, vr b11, vr b14, vr b18, vr b18, vr b87, vi 1, vi 1, un, un]) 261 (hb hy at_259) rfl rfl ?_
              exact KT _ _ _ _ _ _ W118 (by decide) (by decide) ((4 : Int32), b18, b87, (1 : Int32))
  · obtain ⟨n5, b16, b17, xr⟩ := v
    show Gl _ _ _ _ _ _ _ #[.val (.int p0), .val (.int p1), .val (.int p2), .val (.int p3), .val (.int p4), .val (.int n5), .val (.int fl), .val (.int r1_4), .val (.int r1_5), .val (.int r1_6), .val (.int r1_7), .val (.ref b8), .val (.ref b9), .val (.ref b11), .val (.ref b14), .val (.ref b18), .val (.ref b16), .val (.ref b17), .val (.int xr), .val (.int xr), .unset, .unset] []
    refine o_ldcR Wt (w36 hw) (own_wS hw) (own_EL hw) (by simp [consts_1, x]) 263 (hb hy at_261) rfl (n := 512) own_litN128 (by decide) (cells' := cst + 2) (slots' := slt + 516) rfl rfl (by show _ ≤ (32 : Nat); omega) (by show _ ≤ (3200 : Nat); omega) (vs := own_lit128) (z := (128 : Int32)) own_litA128 (by decide) own_litL128 ?_
    intro s119 T119 h119 V119 t119 k119 W119 E119 C119 X119 Fc119 Fv119 A119 ns119
    refine o_astore W119 (L' := #[vi p0, vi p1, vi p2, vi p3, vi p4, vi n5, vi fl, vi r1_4, vi r1_5, vi r1_6, vi r1_7, vr b8, vr b9, vr b11, vr b14, vr b18, vr b16, vr b17, vi xr, vi xr, vr s119, un]) 265 (hb hy at_263) rfl rfl rfl ?_
    refine o_ldcR W119 (w37 hw) (own_wS hw) (own_EL hw) (by simp [consts_1, x]) 267 (hb hy at_265) rfl (n := 516) own_litN129 (by decide) (cells' := cst + 4) (slots' := slt + 1036) rfl rfl (by show _ ≤ (32 : Nat); omega) (by show _ ≤ (3200 : Nat); omega) (vs := own_lit129) (z := (129 : Int32)) own_litA129 (by decide) own_litL129 ?_
    intro s120 T120 h120 V120 t120 k120 W120 E120 C120 X120 Fc120 Fv120 A120 ns120
    refine o_astore W120 (L' := #[vi p0, vi p1, vi p2, vi p3, vi p4, vi n5, vi fl, vi r1_4, vi r1_5, vi r1_6, vi r1_7, vr b8, vr b9, vr b11, vr b14, vr b18, vr b16, vr b17, vi xr, vi xr, vr s119, vr s120]) 269 (hb hy at_267) rfl rfl rfl <| o_iload W120 271 (hb hy at_269) rfl rfl <| o_iload W120 273 (hb hy at_271) rfl rfl <| o_icmpN W120 276 (hb hy at_273) (XT.ii_ne_f rfl) rfl ?_
    refine o_aconstNull W120 277 (hb hy at_276) rfl ?_
    refine o_static W120 (y := mn7) (w27 hw) (w28 hw) (w29 hw) (w30 hw) (by decide) (argsL := [.null]) (CtrN.back (Wd := 0) W120 (rm211 l hw  h120 W120.old ) (w30 hw) (w29 hw) (by decide) (by decide)) (by rw [hml]; rfl) (lenOf pd4 rfl) (S := []) rfl (by exact Nat.le_of_eq rfl) 280 (hb hy at_277) rfl (cells' := cst + 4) (slots' := slt + 1036) rfl rfl (by show _ ≤ (32 : Nat); omega) (by show _ ≤ (3200 : Nat); omega) (wy := []) qf all0 (fun _ K => IW.keep K sf0 W120.inv) ?_
    intro v121 T121 h121 lo121 W121 K121 q121
    obtain rfl := q121.2.2
    show Gl _ _ _ _ _ _ _ _ [iZ]
    refine o_ifN W121 283 (hb hy at_280) (XT.i0_ne_f (by decide)) rfl <| o_aload W121 285 (hb hy at_283) rfl rfl rfl ?_
    have c122 := ((Fv119.ext E120).keep K121 nin0)
    have c123 := ((A119.ext E120).keep K121 nin0)
    have c124 := ((Fc119.ext E120).keep K121 nin0)
    have c125 := ((X119.ext E120).keep K121)
    refine o_static W121 (y := mn7) (w27 hw) (w28 hw) (w29 hw) (w30 hw) (by decide) (argsL := [(.ref s119)]) (CtrN.back (Wd := 0) W121 (rm219 l hw gCS gF s119 t119 k119 h121 W121.old c125 c122 c123 SgCS NgCS c124 SgF NgF) (w30 hw) (w29 hw) (by decide) (by decide)) (by rw [hml]; rfl) (lenOf pd4 rfl) (S := []) rfl (by exact Nat.le_of_eq rfl) 288 (hb hy at_285) rfl (cells' := cst + 4) (slots' := slt + 1036) rfl rfl (by show _ ≤ (32 : Nat); omega) (by show _ ≤ (3200 : Nat); omega) (wy := []) qf all0 (fun _ K => IW.keep K sf0 W121.inv) ?_
    intro v126 T126 h126 lo126 W126 K126 q126
    obtain rfl := q126.2.2
    show Gl _ _ _ _ _ _ _ _ [(.int 1)]
    refine o_ifN W126 291 (hb hy at_288) (XT.i0_eq_f (by decide)) rfl <| o_aload W126 293 (hb hy at_291) rfl rfl rfl ?_
    have c127 := ((Fv120.keep K121 nin0).keep K126 nin0)
    have c128 := ((A120.keep K121 nin0).keep K126 nin0)
    have c129 := ((Fc120.keep K121 nin0).keep K126 nin0)
    have c130 := ((X120.keep K121).keep K126)
    refine o_static W126 (y := mn7) (w27 hw) (w28 hw) (w29 hw) (w30 hw) (by decide) (argsL := [(.ref s120)]) (CtrN.back (Wd := 0) W126 (rm222 l hw gCS s120 t120 k120 h126 W126.old c130 c127 c128 SgCS NgCS c129) (w30 hw) (w29 hw) (by decide) (by decide)) (by rw [hml]; rfl) (lenOf pd4 rfl) (S := []) rfl (by exact Nat.le_of_eq rfl) 296 (hb hy at_293) rfl (cells' := cst + 4) (slots' := slt + 1036) rfl rfl (by show _ ≤ (32 : Nat); omega) (by show _ ≤ (3200 : Nat); omega) (wy := []) qf all0 (fun _ K => IW.keep K sf0 W126.inv) ?_
    intro v131 T131 h131 lo131 W131 K131 q131
    obtain rfl := q131.2.2
    show Gl _ _ _ _ _ _ _ _ [iZ]
    refine o_ifN W131 299 (hb hy at_296) (XT.i0_ne_f (by decide)) rfl <| o_iconst W131 (v := 1) 300 (hb hy at_299) rfl rfl <| o_goto W131 304 (hb hy at_300) (by decide) rfl ?_
    exact o_retNW W131 (own_EL hw) hlk (t := .boolean) hret (by simp) (z' := (1 : Int32)) (by decide) (hb hy at_304) (by show _ ≤ (32 : Nat); omega) (by show _ ≤ (3200 : Nat); omega) rfl
theorem comes_1 {Post : Tables → Env → Array Value → State → Outcome → State → Prop} (hpost : ∀ tb e args s v u, (limb_1_1.after args s (.returned v) u = true ∧ limb_1_2.after args s (.returned v) u = true ∧ True) → Jvm.ReturnedEndW s (.returned v) u (Jvm.fieldLocs frame_1_writes args s ++ Jvm.arrayLocs frame_1_arrays args s ++ Jvm.staticLocs frame_1_statics s) 32 3200 → Post tb e args s (.returned v) u) :
    ArmFor flags0 classFile x code maxLocals ret World_1 tables_1 room_1 Calls_1 rest_1 Pre_1 Post := by
  intro l hfl _ _ p e ha hc hk s m args below hf hA hF happ hP
  obtain ⟨hcalls, hrest, hpre⟩ := hP
  obtain ⟨-, -, -, hnamed, -, -, -, hat⟩ := (Spec.applies_iff hf).mp happ
  obtain ⟨hg, hn⟩ := and_e (Cond.before_iff.mp (show (Jvm.Cond.and given_1 narrow_1).before args s = true from hpre))
  obtain ⟨g1, g2⟩ := and_e hg
  obtain ⟨g3, g4⟩ := and_e g2
  obtain ⟨g5, g6⟩ := and_e g4
  obtain ⟨g7, g8⟩ := and_e g6
  obtain ⟨g9, g10⟩ := and_e g8
  obtain ⟨w0, w1, w2, w3, w4, rfl⟩ : ∃ w0 w1 w2 w3 w4 : Value, args = #[w0, w1, w2, w3, w4] := by
    have hs : args.size = 5 := by simpa [Cond.value, given_1] using g1
    obtain ⟨L⟩ := args
    match L, hs with
    | [w0, w1, w2, w3, w4], _ => exact ⟨w0, w1, w2, w3, w4, rfl⟩
  obtain ⟨i0, ei0⟩ := is_v g3
  obtain rfl : w0 = (.int i0) := Option.some.inj ei0
  obtain ⟨i1, ei1⟩ := is_v g5
  obtain rfl : w1 = (.int i1) := Option.some.inj ei1
  obtain ⟨i2, ei2⟩ := is_v g7
  obtain rfl : w2 = (.int i2) := Option.some.inj ei2
  obtain ⟨i3, ei3⟩ := is_v g9
  obtain rfl : w3 = (.int i3) := Option.some.inj ei3
  obtain ⟨i4, ei4⟩ := is_v g10
  obtain rfl : w4 = (.int i4) := Option.some.inj ei4
  have hw := fun d (hd : d ∈ tables_1) => atoms_spec (ws := Jvm.Cond.code x code maxLocals ret :: tables_1) hat d (List.mem_cons_of_mem _ hd)
  have hfit : Fit s := fun {y c} hc i hi => by
    obtain ⟨ha, rfl⟩ := Array.getElem?_eq_some_iff.mp hc
    have q := List.all_eq_true.mp ((Array.all_eq_true_iff_forall_mem.mp hF) _ (Array.getElem_mem ha)) i (List.mem_range.mpr hi)
    simpa [Array.getElem?_eq_getElem hi] using q
  obtain ⟨hsets, hown0⟩ := atoms_of _ (rest_1_c_eq ▸ (show rest_1_c.before _ s = true from hrest))
  obtain ⟨gCS, eCS⟩ := is_v (Cond.before_iff.mp (hsets _ (List.mem_of_getElem? (i := 1) rfl)))
  have SgCS := Sta.start eCS (Or.inl (hsets _ (List.mem_of_getElem? (i := 0) rfl)))
  have NgCS : ¬ (gCS = (0 : Int32)) := gotF (own_eqS eCS) (not_v (Cond.before_iff.mp (hsets _ (List.mem_of_getElem? (i := 2) rfl))))
  have S__assertionsDisabled := Sta.start (eqv_i (Term.int_eval _) (Cond.before_iff.mp (hsets _ (List.mem_of_getElem? (i := 12) rfl)))) (Or.inl (hsets _ (List.mem_of_getElem? (i := 11) rfl)))
  have S_HI_BYTE_SHIFT := Sta.start (eqv_i (Term.int_eval _) (Cond.before_iff.mp (hsets _ (List.mem_of_getElem? (i := 15) rfl)))) (Or.inl (hsets _ (List.mem_of_getElem? (i := 14) rfl)))
  have S_LO_BYTE_SHIFT := Sta.start (eqv_i (Term.int_eval _) (Cond.before_iff.mp (hsets _ (List.mem_of_getElem? (i := 18) rfl)))) (Or.inl (hsets _ (List.mem_of_getElem? (i := 17) rfl)))
  obtain ⟨gF, evF, NgF⟩ := isR_v (Cond.before_iff.mp (hsets _ (List.mem_of_getElem? (i := 8) rfl)))
  have SgF := Sta.start evF (Or.inl (hsets _ (List.mem_of_getElem? (i := 7) rfl)))
  have hCH : CHv s consts_1 s.vm s.heap := CHv.start (own_EL hw) (show ∀ p ∈ consts_1, Jvm.Lit.constHeld s p.1 p.2 from hcalls.1) (show Jvm.Lit.compactW.before _ s = true from (hsets _ (List.mem_of_getElem? (i := 2) rfl))) (w20 hw) (w7 hw)
  obtain ⟨n, o, h1, h2, h3, _, L, rfl, ⟨N, -, rfl⟩, -, hq⟩ := rm_law l hw gCS gF i0 i1 i2 i3 i4 s.heap (Old.start s) SgCS NgCS SgF NgF S__assertionsDisabled S_HI_BYTE_SHIFT S_LO_BYTE_SHIFT p e ha hc hk s m _ below hf ((Spec.applies_iff_loose hf).mp happ).1 ⟨rfl, State.Warmed39.refl s, rfl, hCH⟩ trivial
  refine ⟨n, _, h1, h2, h3, hpost _ _ _ _ _ _ ⟨Cond.after_iff.mpr rfl, Cond.after_iff.mpr (eq_i res_at (Term.int_eval (1)) rfl), trivial⟩ ⟨hq.1, hq.2.1, hq.2.2.1, (hq.2.2.2.sift fun y hy => Or.inr (N y hy)).mono (by decide) (by decide)⟩⟩
theorem main_1_1 : Claimed_1_1 := comes_1 fun _ _ _ _ _ _ h hF => ⟨h.1, hF⟩
theorem main_1_2 : Claimed_1_2 := comes_1 fun _ _ _ _ _ _ h hF => ⟨h.2.1, hF⟩
end Jvm.Pilot.@@N@@
namespace Jvm.Pilot.@@N@@
open Jvm Jvm.ClassFile Sem Op Lib Jvm.Free Jvm.Stand Jvm.Pilot.@@N@@.Jvm.D
/-! MADE BY PROGRAM (witnessworld.py) out of the Statement's table words and the real class files: 19 classes; the members and pool entries that the words name. The judged class is class 1, her method 3. -/
namespace start1
open Jvm.ClassFile
def u (s : String) : CpInfo := .utf8 (stringToUtf16 s)
/-- a pool by its gaps: so many unusable entries, then the entry; so many at the end -/
def gap : Nat → List CpInfo → List CpInfo
  | 0, r => r
  | n + 1, r => .unusable :: gap n r
def poolList (es : List (Nat × CpInfo)) (last : Nat) : List CpInfo := es.foldr (fun e r => gap e.1 (e.2 :: r)) (gap last [])
def pool (es : List (Nat × CpInfo)) (last : Nat) : Array CpInfo := ⟨poolList es last⟩
def fileOf (pool : Array CpInfo) (this : Nat) (attrs : Array Attribute := #[]) (ms : Array MethodInfo := #[]) (fl : Nat := 33) (sup : Nat := 0) (ifs : Array Nat := #[]) (fds : Array FieldInfo := #[]) : ClassFile where
  minorVersion := 0
  majorVersion := 65
  constantPool := pool
  accessFlags := fl
  thisClass := this
  superClass := sup
  interfaces := ifs
  fields := fds
  methods := ms
  attributes := attrs
def plain (name : String) (sup : Option ClassId) : Class where
  name := name
  kind := .ordinary
  loader := none
  accessFlags := 33
  super := sup
  interfaces := #[]
  cf := none
  fields := #[]
  methods := #[]
  instanceTypes := #[]
  staticTypes := #[]
  resolved := #[]
  callSites := []
  init := .initialized
  statics := none
  mirror := none

def pool0 : Array CpInfo := pool [(5, u "<init>"), (0, u "()V"), (1, .class_ 10), (1, u "java/lang/Object")] 113

def k0c0 : Code := { maxStack := 0, maxLocals := 1, code := object_method_1_code, exceptionTable := #[], attributes := #[] }
def k0m0 : Method := { name := "<init>", desc := "()V", sig := { parameters := [], returnType := none }, accessFlags := 1, code := some k0c0 }
/-- java/lang/Object -/
def k0 : Class := { plain "java/lang/Object" none with
  accessFlags := 33
  interfaces := #[]
  cf := some (fileOf pool0 8 #[] #[{ accessFlags := 1, nameIndex := 5, descriptorIndex := 6, attributes := #[] }] 33 0 #[] #[])
  fields := #[]
  methods := #[k0m0]
  instanceTypes := #[]
  staticTypes := #[]
  resolved := Array.replicate 124 none
  statics := none }

def pool1 : Array CpInfo := pool [(2, .class_ 4), (1, u "java/lang/Object"), (0, u "<init>"), (0, u "()V"), (0, .integer 2147483647), (0, .methodref 9 10), (0, .class_ 11), (0, .nameAndType 12 13), (0, u "com/example/revision/revision/core/RecordKeyIsValidNamePinLaw"), (0, u "pick"), (0, u "(IZ)C"), (0, .class_ 15), (0, u "java/lang/String"), (0, .methodref 14 17), (0, .nameAndType 5 18), (0, u "([C)V"), (0, .methodref 20 21), (0, .class_ 22), (0, .nameAndType 23 24), (0, u "com/example/revision/revision/core/RecordKey"), (0, u "isValidName"), (0, u "(Ljava/lang/String;)Z"), (0, .methodref 9 26), (0, .nameAndType 27 28), (0, u "ok"), (0, u "(C)Z"), (0, .string 30), (0, u "Az09._-azAZ90-_.Az09._-azAZ90-_.Az09._-azAZ90-_.Az09._-azAZ90-_.Az09._-azAZ90-_.Az09._-azAZ90-_.Az09._-azAZ90-_.Az09._-azAZ90-_."), (0, .string 32), (0, u "Az09._-azAZ90-_.Az09._-azAZ90-_.Az09._-azAZ90-_.Az09._-azAZ90-_.Az09._-azAZ90-_.Az09._-azAZ90-_.Az09._-azAZ90-_.Az09._-azAZ90-_.z"), (3, u "law"), (0, u "(IIIII)Z")] 4

def k1m0 : Method := { name := "<init>", desc := "()V", sig := { parameters := [], returnType := none }, accessFlags := 1, code := none }
def k1c1 : Code := { maxStack := 2, maxLocals := 2, code := method_2_code, exceptionTable := #[], attributes := #[] }
def k1m1 : Method := { name := "pick", desc := "(IZ)C", sig := { parameters := [.int, .boolean], returnType := some .char }, accessFlags := 10, code := some k1c1 }
def k1c2 : Code := { maxStack := 2, maxLocals := 5, code := method_3_code, exceptionTable := #[], attributes := #[] }
def k1m2 : Method := { name := "ok", desc := "(C)Z", sig := { parameters := [.char], returnType := some .boolean }, accessFlags := 10, code := some k1c2 }
def k1c3 : Code := { maxStack := 4, maxLocals := 22, code := code, exceptionTable := #[], attributes := #[] }
def k1m3 : Method := { name := "law", desc := "(IIIII)Z", sig := { parameters := [.int, .int, .int, .int, .int], returnType := some .boolean }, accessFlags := 9, code := some k1c3 }
/-- com/example/revision/revision/core/RecordKeyIsValidNamePinLaw -/
def k1 : Class := { plain "com/example/revision/revision/core/RecordKeyIsValidNamePinLaw" (some 0) with
  accessFlags := 49
  interfaces := #[]
  cf := some (fileOf pool1 9 #[] #[{ accessFlags := 1, nameIndex := 5, descriptorIndex := 6, attributes := #[] }, { accessFlags := 10, nameIndex := 12, descriptorIndex := 13, attributes := #[] }, { accessFlags := 10, nameIndex := 27, descriptorIndex := 28, attributes := #[] }, { accessFlags := 9, nameIndex := 36, descriptorIndex := 37, attributes := #[] }] 49 2 #[] #[])
  fields := #[]
  methods := #[k1m0, k1m1, k1m2, k1m3]
  instanceTypes := #[]
  staticTypes := #[]
  resolved := Array.replicate 42 none
  statics := none }

def pool2 : Array CpInfo := pool [(1, .class_ 2), (0, u "java/io/Serializable"), (0, .class_ 4), (0, u "java/lang/Object")] 2

/-- java/io/Serializable -/
def k2 : Class := { plain "java/io/Serializable" (some 0) with
  accessFlags := 1537
  interfaces := #[]
  cf := some (fileOf pool2 1 #[] #[] 1537 3 #[] #[])
  fields := #[]
  methods := #[]
  instanceTypes := #[]
  staticTypes := #[]
  resolved := Array.replicate 7 none
  statics := none }

def pool3 : Array CpInfo := pool [(1, .class_ 2), (0, u "java/lang/Comparable"), (0, .class_ 4), (0, u "java/lang/Object")] 7

/-- java/lang/Comparable -/
def k3 : Class := { plain "java/lang/Comparable" (some 0) with
  accessFlags := 1537
  interfaces := #[]
  cf := some (fileOf pool3 1 #[] #[] 1537 3 #[] #[])
  fields := #[]
  methods := #[]
  instanceTypes := #[]
  staticTypes := #[]
  resolved := Array.replicate 12 none
  statics := none }

def pool4 : Array CpInfo := pool [(2, .class_ 4), (1, u "java/lang/CharSequence"), (42, .class_ 48), (0, u "java/lang/CharSequence$1CodePointIterator"), (10, .class_ 60), (0, u "java/lang/CharSequence$1CharIterator"), (5, .class_ 67), (0, u "java/lang/Object")] 63

/-- java/lang/CharSequence -/
def k4 : Class := { plain "java/lang/CharSequence" (some 0) with
  accessFlags := 1537
  interfaces := #[]
  cf := some (fileOf pool4 2 #[.nestMembers #[47, 59]] #[] 1537 66 #[] #[])
  fields := #[]
  methods := #[]
  instanceTypes := #[]
  staticTypes := #[]
  resolved := Array.replicate 131 none
  statics := none }

def pool5 : Array CpInfo := pool [(1, .class_ 2), (0, u "java/lang/constant/Constable"), (0, .class_ 4), (0, u "java/lang/Object")] 6

/-- java/lang/constant/Constable -/
def k5 : Class := { plain "java/lang/constant/Constable" (some 0) with
  accessFlags := 1537
  interfaces := #[]
  cf := some (fileOf pool5 1 #[] #[] 1537 3 #[] #[])
  fields := #[]
  methods := #[]
  instanceTypes := #[]
  staticTypes := #[]
  resolved := Array.replicate 11 none
  statics := none }

def pool6 : Array CpInfo := pool [(1, .class_ 2), (0, u "java/lang/constant/ConstantDesc"), (0, .class_ 4), (0, u "java/lang/Object")] 32

/-- java/lang/constant/ConstantDesc -/
def k6 : Class := { plain "java/lang/constant/ConstantDesc" (some 0) with
  accessFlags := 1537
  interfaces := #[]
  cf := some (fileOf pool6 1 #[] #[] 1537 3 #[] #[])
  fields := #[]
  methods := #[]
  instanceTypes := #[]
  staticTypes := #[]
  resolved := Array.replicate 37 none
  statics := none }

def pool7 : Array CpInfo := pool [(1, .methodref 2 3), (0, .class_ 4), (0, .nameAndType 5 6), (0, u "java/lang/Object"), (0, u "<init>"), (0, u "()V"), (0, .string 8), (0, u ""), (0, .fieldref 10 11), (0, .class_ 12), (0, .nameAndType 13 14), (0, u "java/lang/String"), (0, u "value"), (0, u "[B"), (0, .fieldref 10 16), (0, .nameAndType 17 18), (0, u "coder"), (0, u "B"), (2, u "hash"), (0, u "I"), (2, u "hashIsZero"), (0, u "Z"), (0, .methodref 10 28), (0, .nameAndType 5 29), (0, u "([CIILjava/lang/Void;)V"), (8, .fieldref 10 39), (0, .nameAndType 40 26), (0, u "COMPACT_STRINGS"), (1, .class_ 44), (1, u "java/lang/StringUTF16"), (0, u "compress"), (1, .methodref 42 48), (0, .nameAndType 49 50), (0, u "coderFromArrayLen"), (0, u "([BI)B"), (56, .class_ 109), (1, u "java/lang/StringLatin1"), (32, u "()Z"), (34, .methodref 42 178), (0, .nameAndType 45 179), (0, u "([CII)[B"), (154, u "()I"), (0, .methodref 10 336), (0, .nameAndType 17 337), (0, u "()B"), (25, u "([BI)C"), (27, u "(II)V"), (35, u "(I)C"), (64, .methodref 10 493), (0, .nameAndType 494 142), (0, u "isLatin1"), (0, .methodref 107 496), (0, .nameAndType 497 363), (0, u "charAt"), (0, .methodref 42 496), (2, u "checkIndex"), (5, u "length"), (67, .class_ 576), (0, u "java/lang/CharSequence"), (22, u "CASE_INSENSITIVE_ORDER"), (0, u "Ljava/util/Comparator;"), (91, u "isEmpty"), (317, u "([C)V"), (42, .fieldref 1054 1055), (0, .class_ 1056), (0, .nameAndType 1057 1058), (0, u "jdk/internal/util/Preconditions"), (0, u "SIOOBE_FORMATTER"), (0, u "Ljava/util/function/BiFunction;"), (0, .methodref 1054 1060), (0, .nameAndType 501 1061), (0, u "(IILjava/util/function/BiFunction;)I"), (39, u "serialPersistentFields"), (0, u "[Ljava/io/ObjectStreamField;"), (0, .class_ 1104), (0, u "java/lang/String$CaseInsensitiveComparator"), (1, .class_ 1107), (0, u "java/io/Serializable"), (0, .class_ 1109), (0, u "java/lang/Comparable"), (0, .class_ 1111), (0, u "java/lang/constant/Constable"), (0, .class_ 1113), (0, u "java/lang/constant/ConstantDesc"), (2, u "serialVersionUID"), (0, u "J"), (3, u "REPL"), (0, u "C"), (2, u "LATIN1"), (1, u "UTF16")] 323

def k7m0 : Method := { name := "<init>", desc := "()V", sig := { parameters := [], returnType := none }, accessFlags := 1, code := none }
def k7c1 : Code := { maxStack := 5, maxLocals := 2, code := jdk_42_method_3_code, exceptionTable := #[], attributes := #[] }
def k7m1 : Method := { name := "<init>", desc := "([C)V", sig := { parameters := [(.array .char)], returnType := none }, accessFlags := 1, code := some k7c1 }
def k7c2 : Code := { maxStack := 2, maxLocals := 1, code := jdk_42_method_54_code, exceptionTable := #[], attributes := #[] }
def k7m2 : Method := { name := "length", desc := "()I", sig := { parameters := [], returnType := some .int }, accessFlags := 1, code := some k7c2 }
def k7c3 : Code := { maxStack := 1, maxLocals := 1, code := jdk_42_method_55_code, exceptionTable := #[], attributes := #[] }
def k7m3 : Method := { name := "isEmpty", desc := "()Z", sig := { parameters := [], returnType := some .boolean }, accessFlags := 1, code := some k7c3 }
def k7c4 : Code := { maxStack := 2, maxLocals := 2, code := jdk_42_method_56_code, exceptionTable := #[], attributes := #[] }
def k7m4 : Method := { name := "charAt", desc := "(I)C", sig := { parameters := [.int], returnType := some .char }, accessFlags := 1, code := some k7c4 }
def k7c5 : Code := { maxStack := 4, maxLocals := 6, code := jdk_42_method_149_code, exceptionTable := #[], attributes := #[] }
def k7m5 : Method := { name := "<init>", desc := "([CIILjava/lang/Void;)V", sig := { parameters := [(.array .char), .int, .int, (.object "java/lang/Void")], returnType := none }, accessFlags := 2, code := some k7c5 }
def k7c6 : Code := { maxStack := 1, maxLocals := 1, code := jdk_42_method_152_code, exceptionTable := #[], attributes := #[] }
def k7m6 : Method := { name := "coder", desc := "()B", sig := { parameters := [], returnType := some .byte }, accessFlags := 0, code := some k7c6 }
def k7c7 : Code := { maxStack := 1, maxLocals := 1, code := jdk_42_method_154_code, exceptionTable := #[], attributes := #[] }
def k7m7 : Method := { name := "isLatin1", desc := "()Z", sig := { parameters := [], returnType := some .boolean }, accessFlags := 0, code := some k7c7 }
def k7c8 : Code := { maxStack := 3, maxLocals := 2, code := jdk_42_method_155_code, exceptionTable := #[], attributes := #[] }
def k7m8 : Method := { name := "checkIndex", desc := "(II)V", sig := { parameters := [.int, .int], returnType := none }, accessFlags := 8, code := some k7c8 }
/-- java/lang/String -/
def k7 : Class := { plain "java/lang/String" (some 0) with
  accessFlags := 49
  interfaces := #[2, 3, 4, 5, 6]
  cf := some (fileOf pool7 10 #[.nestMembers #[1103]] #[{ accessFlags := 1, nameIndex := 5, descriptorIndex := 6, attributes := #[] }, { accessFlags := 1, nameIndex := 5, descriptorIndex := 1010, attributes := #[] }, { accessFlags := 1, nameIndex := 507, descriptorIndex := 334, attributes := #[] }, { accessFlags := 1, nameIndex := 692, descriptorIndex := 142, attributes := #[] }, { accessFlags := 1, nameIndex := 497, descriptorIndex := 427, attributes := #[] }, { accessFlags := 2, nameIndex := 5, descriptorIndex := 29, attributes := #[] }, { accessFlags := 0, nameIndex := 17, descriptorIndex := 337, attributes := #[] }, { accessFlags := 0, nameIndex := 494, descriptorIndex := 142, attributes := #[] }, { accessFlags := 8, nameIndex := 501, descriptorIndex := 391, attributes := #[] }] 49 2 #[1106, 1108, 575, 1110, 1112] #[{ accessFlags := 18, nameIndex := 13, descriptorIndex := 14, attributes := #[] }, { accessFlags := 18, nameIndex := 17, descriptorIndex := 18, attributes := #[] }, { accessFlags := 2, nameIndex := 21, descriptorIndex := 22, attributes := #[] }, { accessFlags := 2, nameIndex := 25, descriptorIndex := 26, attributes := #[] }, { accessFlags := 26, nameIndex := 1116, descriptorIndex := 1117, attributes := #[] }, { accessFlags := 24, nameIndex := 40, descriptorIndex := 26, attributes := #[] }, { accessFlags := 26, nameIndex := 1101, descriptorIndex := 1102, attributes := #[] }, { accessFlags := 26, nameIndex := 1121, descriptorIndex := 1122, attributes := #[] }, { accessFlags := 25, nameIndex := 599, descriptorIndex := 600, attributes := #[] }, { accessFlags := 24, nameIndex := 1125, descriptorIndex := 18, attributes := #[] }, { accessFlags := 24, nameIndex := 1127, descriptorIndex := 18, attributes := #[] }])
  fields := #[{ name := "value", type := (.array .byte), accessFlags := 18, slot := 0, constantValue := 0 }, { name := "coder", type := .byte, accessFlags := 18, slot := 1, constantValue := 0 }, { name := "hash", type := .int, accessFlags := 2, slot := 2, constantValue := 0 }, { name := "hashIsZero", type := .boolean, accessFlags := 2, slot := 3, constantValue := 0 }, { name := "serialVersionUID", type := .long, accessFlags := 26, slot := 0, constantValue := 0 }, { name := "COMPACT_STRINGS", type := .boolean, accessFlags := 24, slot := 1, constantValue := 0 }, { name := "serialPersistentFields", type := (.array (.object "java/io/ObjectStreamField")), accessFlags := 26, slot := 2, constantValue := 0 }, { name := "REPL", type := .char, accessFlags := 26, slot := 3, constantValue := 0 }, { name := "CASE_INSENSITIVE_ORDER", type := (.object "java/util/Comparator"), accessFlags := 25, slot := 4, constantValue := 0 }, { name := "LATIN1", type := .byte, accessFlags := 24, slot := 5, constantValue := 0 }, { name := "UTF16", type := .byte, accessFlags := 24, slot := 6, constantValue := 0 }]
  methods := #[k7m0, k7m1, k7m2, k7m3, k7m4, k7m5, k7m6, k7m7, k7m8]
  instanceTypes := #[(.array .byte), .byte, .int, .boolean]
  staticTypes := #[.long, .boolean, (.array (.object "java/io/ObjectStreamField")), .char, (.object "java/util/Comparator"), .byte, .byte]
  resolved := Array.replicate 1451 none
  statics := some 0 }

def pool8 : Array CpInfo := pool [(2, .class_ 4), (1, u "java/lang/Object"), (0, u "<init>"), (0, u "()V"), (0, .class_ 8), (0, u "java/lang/Record")] 13

def k8m0 : Method := { name := "<init>", desc := "()V", sig := { parameters := [], returnType := none }, accessFlags := 4, code := none }
/-- java/lang/Record -/
def k8 : Class := { plain "java/lang/Record" (some 0) with
  accessFlags := 1057
  interfaces := #[]
  cf := some (fileOf pool8 7 #[] #[{ accessFlags := 4, nameIndex := 5, descriptorIndex := 6, attributes := #[] }] 1057 2 #[] #[])
  fields := #[]
  methods := #[k8m0]
  instanceTypes := #[]
  staticTypes := #[]
  resolved := Array.replicate 22 none
  statics := none }

def pool9 : Array CpInfo := pool [(2, .class_ 4), (1, u "java/lang/Record"), (3, u "collection"), (1, .class_ 12), (1, u "com/example/revision/revision/core/RecordKey"), (3, u "id"), (2, u "Ljava/lang/String;"), (2, .methodref 23 24), (0, .class_ 25), (0, .nameAndType 26 27), (0, u "java/lang/String"), (0, u "isEmpty"), (0, u "()Z"), (0, .methodref 23 29), (0, .nameAndType 30 31), (0, u "length"), (0, u "()I"), (0, .methodref 23 33), (0, .nameAndType 34 35), (0, u "charAt"), (0, u "(I)C"), (2, u "isValidName"), (0, u "(Ljava/lang/String;)Z"), (21, u "MAX_NAME_LENGTH"), (0, u "I")] 37

def k9c0 : Code := { maxStack := 2, maxLocals := 4, code := prog_6_method_2_code, exceptionTable := #[], attributes := #[] }
def k9m0 : Method := { name := "isValidName", desc := "(Ljava/lang/String;)Z", sig := { parameters := [(.object "java/lang/String")], returnType := some .boolean }, accessFlags := 9, code := some k9c0 }
/-- com/example/revision/revision/core/RecordKey -/
def k9 : Class := { plain "com/example/revision/revision/core/RecordKey" (some 8) with
  accessFlags := 49
  interfaces := #[]
  cf := some (fileOf pool9 10 #[] #[{ accessFlags := 9, nameIndex := 38, descriptorIndex := 39, attributes := #[] }] 49 2 #[] #[{ accessFlags := 18, nameIndex := 8, descriptorIndex := 19, attributes := #[] }, { accessFlags := 18, nameIndex := 16, descriptorIndex := 19, attributes := #[] }, { accessFlags := 25, nameIndex := 61, descriptorIndex := 62, attributes := #[] }])
  fields := #[{ name := "collection", type := (.object "java/lang/String"), accessFlags := 18, slot := 0, constantValue := 0 }, { name := "id", type := (.object "java/lang/String"), accessFlags := 18, slot := 1, constantValue := 0 }, { name := "MAX_NAME_LENGTH", type := .int, accessFlags := 25, slot := 0, constantValue := 0 }]
  methods := #[k9m0]
  instanceTypes := #[(.object "java/lang/String"), (.object "java/lang/String")]
  staticTypes := #[.int]
  resolved := Array.replicate 100 none
  statics := none }

def pool10 : Array CpInfo := pool [(1, .class_ 2), (0, u "java/lang/String"), (1, .class_ 6), (1, u "java/lang/Object"), (0, u "<init>"), (0, u "()V"), (0, .methodref 1 10), (0, .nameAndType 11 12), (0, u "checkIndex"), (0, u "(II)V"), (1, .class_ 16), (1, u "java/lang/StringLatin1"), (36, u "([BI)C"), (67, u "$assertionsDisabled"), (0, u "Z"), (98, .class_ 223), (1, u "java/lang/StringLatin1$LinesSpliterator"), (28, u "charAt"), (137, .class_ 391), (0, u "java/lang/StringLatin1$CharsSpliterator")] 3

def k10m0 : Method := { name := "<init>", desc := "()V", sig := { parameters := [], returnType := none }, accessFlags := 0, code := none }
def k10c1 : Code := { maxStack := 2, maxLocals := 2, code := jdk_43_method_2_code, exceptionTable := #[], attributes := #[] }
def k10m1 : Method := { name := "charAt", desc := "([BI)C", sig := { parameters := [(.array .byte), .int], returnType := some .char }, accessFlags := 9, code := some k10c1 }
/-- java/lang/StringLatin1 -/
def k10 : Class := { plain "java/lang/StringLatin1" (some 0) with
  accessFlags := 48
  interfaces := #[]
  cf := some (fileOf pool10 14 #[.nestMembers #[390, 221]] #[{ accessFlags := 0, nameIndex := 7, descriptorIndex := 8, attributes := #[] }, { accessFlags := 9, nameIndex := 252, descriptorIndex := 53, attributes := #[] }] 48 4 #[] #[{ accessFlags := 4120, nameIndex := 121, descriptorIndex := 122, attributes := #[] }])
  fields := #[{ name := "$assertionsDisabled", type := .boolean, accessFlags := 4120, slot := 0, constantValue := 0 }]
  methods := #[k10m0, k10m1]
  instanceTypes := #[]
  staticTypes := #[.boolean]
  resolved := Array.replicate 395 none
  statics := none }

def pool11 : Array CpInfo := pool [(2, .class_ 4), (1, u "java/lang/Object"), (0, u "<init>"), (0, u "()V"), (17, .class_ 26), (1, u "jdk/internal/util/Preconditions"), (6, u "checkIndex"), (21, .class_ 56), (0, u "jdk/internal/util/Preconditions$4"), (57, .class_ 115), (0, u "jdk/internal/util/Preconditions$1"), (7, u "SIOOBE_FORMATTER"), (0, u "Ljava/util/function/BiFunction;"), (0, .class_ 126), (0, u "jdk/internal/util/Preconditions$2"), (3, u "AIOOBE_FORMATTER"), (0, .class_ 132), (0, u "jdk/internal/util/Preconditions$3"), (3, u "IOOBE_FORMATTER"), (41, u "(IILjava/util/function/BiFunction;)I")] 15

def k11m0 : Method := { name := "<init>", desc := "()V", sig := { parameters := [], returnType := none }, accessFlags := 1, code := none }
def k11c1 : Code := { maxStack := 3, maxLocals := 3, code := jdk_41_method_11_code, exceptionTable := #[], attributes := #[] }
def k11m1 : Method := { name := "checkIndex", desc := "(IILjava/util/function/BiFunction;)I", sig := { parameters := [.int, .int, (.object "java/util/function/BiFunction")], returnType := some .int }, accessFlags := 9, code := some k11c1 }
/-- jdk/internal/util/Preconditions -/
def k11 : Class := { plain "jdk/internal/util/Preconditions" (some 0) with
  accessFlags := 33
  interfaces := #[]
  cf := some (fileOf pool11 24 #[.nestMembers #[55, 131, 125, 114]] #[{ accessFlags := 1, nameIndex := 5, descriptorIndex := 6, attributes := #[] }, { accessFlags := 9, nameIndex := 33, descriptorIndex := 178, attributes := #[] }] 33 2 #[] #[{ accessFlags := 25, nameIndex := 123, descriptorIndex := 124, attributes := #[] }, { accessFlags := 25, nameIndex := 130, descriptorIndex := 124, attributes := #[] }, { accessFlags := 25, nameIndex := 136, descriptorIndex := 124, attributes := #[] }])
  fields := #[{ name := "SIOOBE_FORMATTER", type := (.object "java/util/function/BiFunction"), accessFlags := 25, slot := 0, constantValue := 0 }, { name := "AIOOBE_FORMATTER", type := (.object "java/util/function/BiFunction"), accessFlags := 25, slot := 1, constantValue := 0 }, { name := "IOOBE_FORMATTER", type := (.object "java/util/function/BiFunction"), accessFlags := 25, slot := 2, constantValue := 0 }]
  methods := #[k11m0, k11m1]
  instanceTypes := #[]
  staticTypes := #[(.object "java/util/function/BiFunction"), (.object "java/util/function/BiFunction"), (.object "java/util/function/BiFunction")]
  resolved := Array.replicate 194 none
  statics := some 1 }

def pool12 : Array CpInfo := pool [(3, .class_ 4), (0, u "java/lang/String"), (1, .class_ 8), (1, u "java/lang/Object"), (0, u "<init>"), (0, u "()V"), (0, .methodref 12 13), (0, .class_ 14), (0, .nameAndType 15 16), (0, u "java/lang/StringUTF16"), (0, u "newBytesLength"), (0, u "(I)I"), (3, .integer 1073741823), (23, .fieldref 12 45), (0, .nameAndType 46 47), (0, u "$assertionsDisabled"), (0, u "Z"), (0, .methodref 12 49), (0, .nameAndType 50 51), (0, u "length"), (0, u "([B)I"), (7, .fieldref 12 60), (0, .nameAndType 61 62), (0, u "HI_BYTE_SHIFT"), (0, u "I"), (0, .fieldref 12 64), (0, .nameAndType 65 62), (0, u "LO_BYTE_SHIFT"), (1, .methodref 12 68), (0, .nameAndType 69 70), (0, u "checkIndex"), (0, u "(I[B)V"), (0, .methodref 12 72), (0, .nameAndType 73 74), (0, u "getChar"), (0, u "([BI)C"), (32, .methodref 12 108), (0, .nameAndType 109 110), (0, u "newBytesFor"), (0, u "(I)[B"), (0, .methodref 12 112), (0, .nameAndType 113 114), (0, u "putChar"), (0, u "([BII)V"), (0, .methodref 12 116), (0, .nameAndType 117 118), (0, u "compress"), (0, u "([CI[BII)I"), (0, .methodref 12 120), (0, .nameAndType 121 122), (0, u "toBytes"), (0, u "([CII)[B"), (138, u "coderFromArrayLen"), (0, u "([BI)B"), (106, .class_ 371), (1, u "java/lang/StringUTF16$LinesSpliterator"), (20, u "charAt"), (21, .methodref 3 415), (0, .nameAndType 69 416), (0, u "(II)V"), (13, u "MAX_LENGTH"), (196, .class_ 628), (0, u "java/lang/StringUTF16$CodePointsSpliterator"), (0, .class_ 630), (0, u "java/lang/StringUTF16$CharsSpliterator")] 4

def k12m0 : Method := { name := "<init>", desc := "()V", sig := { parameters := [], returnType := none }, accessFlags := 0, code := none }
def k12c1 : Code := { maxStack := 1, maxLocals := 1, code := jdk_52_method_2_code, exceptionTable := #[], attributes := #[] }
def k12m1 : Method := { name := "newBytesFor", desc := "(I)[B", sig := { parameters := [.int], returnType := some (.array .byte) }, accessFlags := 9, code := some k12c1 }
def k12c2 : Code := { maxStack := 4, maxLocals := 1, code := jdk_52_method_3_code, exceptionTable := #[], attributes := #[] }
def k12m2 : Method := { name := "newBytesLength", desc := "(I)I", sig := { parameters := [.int], returnType := some .int }, accessFlags := 9, code := some k12c2 }
def k12c3 : Code := { maxStack := 4, maxLocals := 3, code := jdk_52_method_4_code, exceptionTable := #[], attributes := #[] }
def k12m3 : Method := { name := "putChar", desc := "([BII)V", sig := { parameters := [(.array .byte), .int, .int], returnType := none }, accessFlags := 8, code := some k12c3 }
def k12c4 : Code := { maxStack := 3, maxLocals := 2, code := jdk_52_method_5_code, exceptionTable := #[], attributes := #[] }
def k12m4 : Method := { name := "getChar", desc := "([BI)C", sig := { parameters := [(.array .byte), .int], returnType := some .char }, accessFlags := 8, code := some k12c4 }
def k12c5 : Code := { maxStack := 2, maxLocals := 1, code := jdk_52_method_6_code, exceptionTable := #[], attributes := #[] }
def k12m5 : Method := { name := "length", desc := "([B)I", sig := { parameters := [(.array .byte)], returnType := some .int }, accessFlags := 9, code := some k12c5 }
def k12c6 : Code := { maxStack := 4, maxLocals := 5, code := jdk_52_method_14_code, exceptionTable := #[], attributes := #[] }
def k12m6 : Method := { name := "toBytes", desc := "([CII)[B", sig := { parameters := [(.array .char), .int, .int], returnType := some (.array .byte) }, accessFlags := 9, code := some k12c6 }
def k12c7 : Code := { maxStack := 2, maxLocals := 2, code := jdk_52_method_15_code, exceptionTable := #[], attributes := #[] }
def k12m7 : Method := { name := "coderFromArrayLen", desc := "([BI)B", sig := { parameters := [(.array .byte), .int], returnType := some .byte }, accessFlags := 8, code := some k12c7 }
def k12c8 : Code := { maxStack := 5, maxLocals := 6, code := jdk_52_method_16_code, exceptionTable := #[], attributes := #[] }
def k12m8 : Method := { name := "compress", desc := "([CII)[B", sig := { parameters := [(.array .char), .int, .int], returnType := some (.array .byte) }, accessFlags := 9, code := some k12c8 }
def k12c9 : Code := { maxStack := 3, maxLocals := 7, code := jdk_52_method_21_code, exceptionTable := #[], attributes := #[] }
def k12m9 : Method := { name := "compress", desc := "([CI[BII)I", sig := { parameters := [(.array .char), .int, (.array .byte), .int, .int], returnType := some .int }, accessFlags := 9, code := some k12c9 }
def k12c10 : Code := { maxStack := 2, maxLocals := 2, code := jdk_52_method_83_code, exceptionTable := #[], attributes := #[] }
def k12m10 : Method := { name := "charAt", desc := "([BI)C", sig := { parameters := [(.array .byte), .int], returnType := some .char }, accessFlags := 9, code := some k12c10 }
def k12c11 : Code := { maxStack := 2, maxLocals := 2, code := jdk_52_method_91_code, exceptionTable := #[], attributes := #[] }
def k12m11 : Method := { name := "checkIndex", desc := "(I[B)V", sig := { parameters := [.int, (.array .byte)], returnType := none }, accessFlags := 9, code := some k12c11 }
/-- java/lang/StringUTF16 -/
def k12 : Class := { plain "java/lang/StringUTF16" (some 0) with
  accessFlags := 48
  interfaces := #[]
  cf := some (fileOf pool12 12 #[.nestMembers #[627, 629, 369]] #[{ accessFlags := 0, nameIndex := 9, descriptorIndex := 10, attributes := #[] }, { accessFlags := 9, nameIndex := 109, descriptorIndex := 110, attributes := #[] }, { accessFlags := 9, nameIndex := 15, descriptorIndex := 16, attributes := #[] }, { accessFlags := 8, nameIndex := 113, descriptorIndex := 114, attributes := #[] }, { accessFlags := 8, nameIndex := 73, descriptorIndex := 74, attributes := #[] }, { accessFlags := 9, nameIndex := 50, descriptorIndex := 51, attributes := #[] }, { accessFlags := 9, nameIndex := 121, descriptorIndex := 122, attributes := #[] }, { accessFlags := 8, nameIndex := 261, descriptorIndex := 262, attributes := #[] }, { accessFlags := 9, nameIndex := 117, descriptorIndex := 122, attributes := #[] }, { accessFlags := 9, nameIndex := 117, descriptorIndex := 118, attributes := #[] }, { accessFlags := 9, nameIndex := 392, descriptorIndex := 74, attributes := #[] }, { accessFlags := 9, nameIndex := 69, descriptorIndex := 70, attributes := #[] }] 48 6 #[] #[{ accessFlags := 26, nameIndex := 61, descriptorIndex := 62, attributes := #[] }, { accessFlags := 26, nameIndex := 65, descriptorIndex := 62, attributes := #[] }, { accessFlags := 24, nameIndex := 430, descriptorIndex := 62, attributes := #[] }, { accessFlags := 4120, nameIndex := 46, descriptorIndex := 47, attributes := #[] }])
  fields := #[{ name := "HI_BYTE_SHIFT", type := .int, accessFlags := 26, slot := 0, constantValue := 0 }, { name := "LO_BYTE_SHIFT", type := .int, accessFlags := 26, slot := 1, constantValue := 0 }, { name := "MAX_LENGTH", type := .int, accessFlags := 24, slot := 2, constantValue := 0 }, { name := "$assertionsDisabled", type := .boolean, accessFlags := 4120, slot := 3, constantValue := 0 }]
  methods := #[k12m0, k12m1, k12m2, k12m3, k12m4, k12m5, k12m6, k12m7, k12m8, k12m9, k12m10, k12m11]
  instanceTypes := #[]
  staticTypes := #[.int, .int, .int, .boolean]
  resolved := Array.replicate 635 none
  statics := some 2 }

def pool13 : Array CpInfo := pool [(9, u "<init>"), (6, .class_ 18), (1, u "java/lang/Object"), (0, u "()V"), (1, .class_ 23), (1, u "jdk/internal/util/ArraysSupport"), (0, u "LOG2_ARRAY_LONG_INDEX_SCALE"), (0, u "I"), (2, u "U"), (0, u "Ljdk/internal/misc/Unsafe;"), (8, u "BIG_ENDIAN"), (0, u "Z"), (8, u "LOG2_BYTE_BIT_SIZE"), (4, u "LOG2_ARRAY_INT_INDEX_SCALE"), (54, u "JLA"), (0, u "Ljdk/internal/access/JavaLangAccess;"), (11, u "LOG2_ARRAY_BOOLEAN_INDEX_SCALE"), (9, u "LOG2_ARRAY_BYTE_INDEX_SCALE"), (5, u "LOG2_ARRAY_CHAR_INDEX_SCALE"), (5, u "LOG2_ARRAY_SHORT_INDEX_SCALE"), (18, u "LOG2_ARRAY_FLOAT_INDEX_SCALE"), (24, u "LOG2_ARRAY_DOUBLE_INDEX_SCALE"), (89, u "T_BOOLEAN"), (2, u "T_CHAR"), (1, u "T_FLOAT"), (1, u "T_DOUBLE"), (1, u "T_BYTE"), (1, u "T_SHORT"), (1, u "T_INT"), (1, u "T_LONG"), (1, u "SOFT_MAX_ARRAY_LENGTH")] 83

def k13m0 : Method := { name := "<init>", desc := "()V", sig := { parameters := [], returnType := none }, accessFlags := 2, code := none }
/-- jdk/internal/util/ArraysSupport -/
def k13 : Class := { plain "jdk/internal/util/ArraysSupport" (some 0) with
  accessFlags := 33
  interfaces := #[]
  cf := some (fileOf pool13 21 #[] #[{ accessFlags := 2, nameIndex := 9, descriptorIndex := 19, attributes := #[] }] 33 16 #[] #[{ accessFlags := 24, nameIndex := 28, descriptorIndex := 29, attributes := #[] }, { accessFlags := 26, nameIndex := 38, descriptorIndex := 39, attributes := #[] }, { accessFlags := 25, nameIndex := 121, descriptorIndex := 25, attributes := #[] }, { accessFlags := 25, nameIndex := 131, descriptorIndex := 25, attributes := #[] }, { accessFlags := 25, nameIndex := 137, descriptorIndex := 25, attributes := #[] }, { accessFlags := 25, nameIndex := 143, descriptorIndex := 25, attributes := #[] }, { accessFlags := 25, nameIndex := 53, descriptorIndex := 25, attributes := #[] }, { accessFlags := 25, nameIndex := 24, descriptorIndex := 25, attributes := #[] }, { accessFlags := 25, nameIndex := 162, descriptorIndex := 25, attributes := #[] }, { accessFlags := 25, nameIndex := 187, descriptorIndex := 25, attributes := #[] }, { accessFlags := 26, nameIndex := 48, descriptorIndex := 25, attributes := #[] }, { accessFlags := 25, nameIndex := 277, descriptorIndex := 25, attributes := #[] }, { accessFlags := 25, nameIndex := 280, descriptorIndex := 25, attributes := #[] }, { accessFlags := 25, nameIndex := 282, descriptorIndex := 25, attributes := #[] }, { accessFlags := 25, nameIndex := 284, descriptorIndex := 25, attributes := #[] }, { accessFlags := 25, nameIndex := 286, descriptorIndex := 25, attributes := #[] }, { accessFlags := 25, nameIndex := 288, descriptorIndex := 25, attributes := #[] }, { accessFlags := 25, nameIndex := 290, descriptorIndex := 25, attributes := #[] }, { accessFlags := 25, nameIndex := 292, descriptorIndex := 25, attributes := #[] }, { accessFlags := 26, nameIndex := 108, descriptorIndex := 109, attributes := #[] }, { accessFlags := 25, nameIndex := 294, descriptorIndex := 25, attributes := #[] }])
  fields := #[{ name := "U", type := (.object "jdk/internal/misc/Unsafe"), accessFlags := 24, slot := 0, constantValue := 0 }, { name := "BIG_ENDIAN", type := .boolean, accessFlags := 26, slot := 1, constantValue := 0 }, { name := "LOG2_ARRAY_BOOLEAN_INDEX_SCALE", type := .int, accessFlags := 25, slot := 2, constantValue := 0 }, { name := "LOG2_ARRAY_BYTE_INDEX_SCALE", type := .int, accessFlags := 25, slot := 3, constantValue := 0 }, { name := "LOG2_ARRAY_CHAR_INDEX_SCALE", type := .int, accessFlags := 25, slot := 4, constantValue := 0 }, { name := "LOG2_ARRAY_SHORT_INDEX_SCALE", type := .int, accessFlags := 25, slot := 5, constantValue := 0 }, { name := "LOG2_ARRAY_INT_INDEX_SCALE", type := .int, accessFlags := 25, slot := 6, constantValue := 0 }, { name := "LOG2_ARRAY_LONG_INDEX_SCALE", type := .int, accessFlags := 25, slot := 7, constantValue := 0 }, { name := "LOG2_ARRAY_FLOAT_INDEX_SCALE", type := .int, accessFlags := 25, slot := 8, constantValue := 0 }, { name := "LOG2_ARRAY_DOUBLE_INDEX_SCALE", type := .int, accessFlags := 25, slot := 9, constantValue := 0 }, { name := "LOG2_BYTE_BIT_SIZE", type := .int, accessFlags := 26, slot := 10, constantValue := 0 }, { name := "T_BOOLEAN", type := .int, accessFlags := 25, slot := 11, constantValue := 0 }, { name := "T_CHAR", type := .int, accessFlags := 25, slot := 12, constantValue := 0 }, { name := "T_FLOAT", type := .int, accessFlags := 25, slot := 13, constantValue := 0 }, { name := "T_DOUBLE", type := .int, accessFlags := 25, slot := 14, constantValue := 0 }, { name := "T_BYTE", type := .int, accessFlags := 25, slot := 15, constantValue := 0 }, { name := "T_SHORT", type := .int, accessFlags := 25, slot := 16, constantValue := 0 }, { name := "T_INT", type := .int, accessFlags := 25, slot := 17, constantValue := 0 }, { name := "T_LONG", type := .int, accessFlags := 25, slot := 18, constantValue := 0 }, { name := "JLA", type := (.object "jdk/internal/access/JavaLangAccess"), accessFlags := 26, slot := 19, constantValue := 0 }, { name := "SOFT_MAX_ARRAY_LENGTH", type := .int, accessFlags := 25, slot := 20, constantValue := 0 }]
  methods := #[k13m0]
  instanceTypes := #[]
  staticTypes := #[(.object "jdk/internal/misc/Unsafe"), .boolean, .int, .int, .int, .int, .int, .int, .int, .int, .int, .int, .int, .int, .int, .int, .int, .int, .int, (.object "jdk/internal/access/JavaLangAccess"), .int]
  resolved := Array.replicate 378 none
  statics := none }

def pool14 : Array CpInfo := pool [(1, u "java/lang/Cloneable"), (0, .class_ 1), (0, u "java/lang/Object"), (0, .class_ 3)] 3

/-- java/lang/Cloneable -/
def k14 : Class := { plain "java/lang/Cloneable" (some 0) with
  accessFlags := 1537
  interfaces := #[]
  cf := some (fileOf pool14 2 #[] #[] 1537 4 #[] #[])
  fields := #[]
  methods := #[]
  instanceTypes := #[]
  staticTypes := #[]
  resolved := Array.replicate 8 none
  statics := none }

/-- the primitive byte -/
def k15 : Class := { plain "byte" none with kind := .primitive 'B', accessFlags := 0x411 }
/-- [B -/
def k16 : Class := { plain "[B" (some 0) with kind := .array 15 .byte, interfaces := #[14, 2], accessFlags := 1041 }

/-- the primitive char -/
def k17 : Class := { plain "char" none with kind := .primitive 'C', accessFlags := 0x411 }
/-- [C -/
def k18 : Class := { plain "[C" (some 0) with kind := .array 17 .char, interfaces := #[14, 2], accessFlags := 1041 }

def heap : Heap := #[{ cls := 7, slots := #[.long 0, .int 1, .null, .int 0, .null, .int 0, .int 0], vm := .statics 7 },
  { cls := 11, slots := #[.null, .null, .null], vm := .statics 11 },
  { cls := 12, slots := #[.int 0, .int 8, .int 0, .int 1], vm := .statics 12 }]
def classes : Array Class := #[k0, k1, k2, k3, k4, k5, k6, k7, k8, k9, k10, k11, k12, k13, k14, k15, k16, k17, k18]
def interned : List (Array UInt16 × Addr) := []
def slotsUsed : Nat := 14
def theMethod : MethodId := ⟨1, 3⟩
def args0 : Array Value := #[.int 5, .int 6, .int 7, .int 8, .int 9]
def aboutOver (below : List Frame) : State where
  vm := { classes := classes, interned := interned.toArray }
  heap := heap
  slotsUsed := slotsUsed
  threads := #[{ frames := .invoking theMethod args0 :: below }]
def below0 : List Frame := [.native { method := ⟨0, 0⟩, args := #[] }]
def about1 : State := aboutOver below0
def p0 : Program := .bare "" "" ""
def e0 : Env := launch0.env 0 0 0
theorem w_frames : about1.frames = Frame.invoking theMethod args0 :: below0 := rfl
set_option maxRecDepth 65536 in
theorem w_args : argsFit about1.vm theMethod args0 = true := by decide +kernel
set_option maxRecDepth 65536 in
theorem w_heap : heapFits about1 = true := by decide +kernel
set_option maxRecDepth 65536 in
theorem w_runnable : about1.curStatus? = some .runnable := by decide +kernel
set_option maxRecDepth 65536 in
theorem w_alone : about1.alone = true := by decide +kernel
set_option maxRecDepth 65536 in
theorem w_named : about1.methodNamed? x = some theMethod := by decide +kernel
set_option maxRecDepth 65536 in
theorem w_hears : about1.hears theMethod below0 = true := by decide +kernel
set_option maxRecDepth 65536 in
theorem w_ripe : about1.ripe theMethod args0 below0 = true := by decide +kernel
theorem w_running : about1.status = .running := rfl
set_option maxRecDepth 65536 in
theorem w_room : about1.hasRoom e0.platform room_1 = true :=
  launch0.hasRoom_least _ room_1 (by decide +kernel) (by decide +kernel) (by decide +kernel) (by decide +kernel) (by decide +kernel) (by decide +kernel)
theorem allAtoms_all (ts : List Jvm.Cond) (a : Array Jvm.Value) (st : Jvm.State) : (allAtoms ts).before a st = ts.all (fun c => c.before a st) := by
  induction ts with
  | nil => rfl
  | cons c t ih =>
    show (Jvm.Cond.and c (allAtoms t)).before a st = _
    rw [Jvm.Cond.before_and, ih, List.all_cons]
def words1 : List Jvm.Cond := Jvm.Cond.code x code maxLocals ret :: tables_1
/-- a 'code' word, met by the world's own term for the bytes: nothing is compared byte by byte -/
theorem code_word {y : MethodName} {bytes : ByteArray} {mx : Nat} {rt : Option FieldType} {a : Array Value} {s : State} {m : MethodId} {meth : Method} {c : Code} (h1 : s.methodNamed? y = some m) (h2 : s.vm.method? m = some meth) (h3 : meth.code = some c) (h4 : c.code = bytes)
    (h5 : (c.maxLocals == mx && c.exceptionTable.isEmpty && decide (c.maxStack ≤ mostOperands) && decide (meth.sig.returnType = rt) && !meth.locks && decide (parseMethodDescriptor y.desc = some meth.sig)) = true) : (Jvm.Cond.code y bytes mx rt).before a s = true := by
  simp only [Bool.and_eq_true, beq_iff_eq, Bool.not_eq_true', decide_eq_true_eq] at h5
  obtain ⟨⟨⟨⟨⟨g1, g2⟩, g3⟩, g4⟩, g5⟩, g6⟩ := h5
  simp [Cond.before, Cond.holds, Cond.value, h1, h2, h3, h4, g1, g2, g3, g4, g5, g6]
def isCode : Jvm.Cond → Bool
  | .code _ _ _ _ => true
  | _ => false
theorem all_split {L : List Jvm.Cond} {P : Jvm.Cond → Bool} (h1 : L.all (fun c => isCode c || P c) = true) (h2 : ∀ c ∈ L.filter isCode, P c = true) : L.all P = true := by
  refine List.all_eq_true.mpr fun c hc => ?_
  have h := List.all_eq_true.mp h1 c hc
  rcases Bool.eq_false_or_eq_true (isCode c) with hi | hi
  · exact h2 c (List.mem_filter.mpr ⟨hc, hi⟩)
  · simpa [hi] using h
set_option maxRecDepth 65536 in
theorem w_c0 : (Jvm.Cond.code x code maxLocals ret).before args0 about1 = true := code_word (m := ⟨1, 3⟩) (meth := k1m3) (c := k1c3) (by decide +kernel) rfl rfl rfl (by decide +kernel)
set_option maxRecDepth 65536 in
theorem w_c1 : (Jvm.Cond.code ({ cls := "com/example/revision/revision/core/RecordKeyIsValidNamePinLaw", name := "pick", desc := "(IZ)C" } : Jvm.MethodName) method_2_code (2 : Nat) (Option.some Jvm.ClassFile.FieldType.char)).before args0 about1 = true := code_word (m := ⟨1, 1⟩) (meth := k1m1) (c := k1c1) (by decide +kernel) rfl rfl rfl (by decide +kernel)
set_option maxRecDepth 65536 in
theorem w_c2 : (Jvm.Cond.code ({ cls := "java/lang/String", name := "<init>", desc := "([C)V" } : Jvm.MethodName) jdk_42_method_3_code (2 : Nat) (Option.none : Option Jvm.ClassFile.FieldType)).before args0 about1 = true := code_word (m := ⟨7, 1⟩) (meth := k7m1) (c := k7c1) (by decide +kernel) rfl rfl rfl (by decide +kernel)
set_option maxRecDepth 65536 in
theorem w_c3 : (Jvm.Cond.code ({ cls := "java/lang/String", name := "<init>", desc := "([CIILjava/lang/Void;)V" } : Jvm.MethodName) jdk_42_method_149_code (6 : Nat) (Option.none : Option Jvm.ClassFile.FieldType)).before args0 about1 = true := code_word (m := ⟨7, 5⟩) (meth := k7m5) (c := k7c5) (by decide +kernel) rfl rfl rfl (by decide +kernel)
set_option maxRecDepth 65536 in
theorem w_c4 : (Jvm.Cond.code ({ cls := "java/lang/Object", name := "<init>", desc := "()V" } : Jvm.MethodName) object_method_1_code (1 : Nat) (Option.none : Option Jvm.ClassFile.FieldType)).before args0 about1 = true := code_word (m := ⟨0, 0⟩) (meth := k0m0) (c := k0c0) (by decide +kernel) rfl rfl rfl (by decide +kernel)
set_option maxRecDepth 65536 in
theorem w_c5 : (Jvm.Cond.code ({ cls := "com/example/revision/revision/core/RecordKey", name := "isValidName", desc := "(Ljava/lang/String;)Z" } : Jvm.MethodName) prog_6_method_2_code (4 : Nat) (Option.some Jvm.ClassFile.FieldType.boolean)).before args0 about1 = true := code_word (m := ⟨9, 0⟩) (meth := k9m0) (c := k9c0) (by decide +kernel) rfl rfl rfl (by decide +kernel)
set_option maxRecDepth 65536 in
theorem w_c6 : (Jvm.Cond.code ({ cls := "java/lang/String", name := "isEmpty", desc := "()Z" } : Jvm.MethodName) jdk_42_method_55_code (1 : Nat) (Option.some Jvm.ClassFile.FieldType.boolean)).before args0 about1 = true := code_word (m := ⟨7, 3⟩) (meth := k7m3) (c := k7c3) (by decide +kernel) rfl rfl rfl (by decide +kernel)
set_option maxRecDepth 65536 in
theorem w_c7 : (Jvm.Cond.code ({ cls := "java/lang/String", name := "length", desc := "()I" } : Jvm.MethodName) jdk_42_method_54_code (1 : Nat) (Option.some Jvm.ClassFile.FieldType.int)).before args0 about1 = true := code_word (m := ⟨7, 2⟩) (meth := k7m2) (c := k7c2) (by decide +kernel) rfl rfl rfl (by decide +kernel)
set_option maxRecDepth 65536 in
theorem w_c8 : (Jvm.Cond.code ({ cls := "java/lang/String", name := "coder", desc := "()B" } : Jvm.MethodName) jdk_42_method_152_code (1 : Nat) (Option.some Jvm.ClassFile.FieldType.byte)).before args0 about1 = true := code_word (m := ⟨7, 6⟩) (meth := k7m6) (c := k7c6) (by decide +kernel) rfl rfl rfl (by decide +kernel)
set_option maxRecDepth 65536 in
theorem w_c9 : (Jvm.Cond.code ({ cls := "java/lang/String", name := "charAt", desc := "(I)C" } : Jvm.MethodName) jdk_42_method_56_code (2 : Nat) (Option.some Jvm.ClassFile.FieldType.char)).before args0 about1 = true := code_word (m := ⟨7, 4⟩) (meth := k7m4) (c := k7c4) (by decide +kernel) rfl rfl rfl (by decide +kernel)
set_option maxRecDepth 65536 in
theorem w_c10 : (Jvm.Cond.code ({ cls := "java/lang/String", name := "isLatin1", desc := "()Z" } : Jvm.MethodName) jdk_42_method_154_code (1 : Nat) (Option.some Jvm.ClassFile.FieldType.boolean)).before args0 about1 = true := code_word (m := ⟨7, 7⟩) (meth := k7m7) (c := k7c7) (by decide +kernel) rfl rfl rfl (by decide +kernel)
set_option maxRecDepth 65536 in
theorem w_c11 : (Jvm.Cond.code ({ cls := "java/lang/StringLatin1", name := "charAt", desc := "([BI)C" } : Jvm.MethodName) jdk_43_method_2_code (2 : Nat) (Option.some Jvm.ClassFile.FieldType.char)).before args0 about1 = true := code_word (m := ⟨10, 1⟩) (meth := k10m1) (c := k10c1) (by decide +kernel) rfl rfl rfl (by decide +kernel)
set_option maxRecDepth 65536 in
theorem w_c12 : (Jvm.Cond.code ({ cls := "java/lang/String", name := "checkIndex", desc := "(II)V" } : Jvm.MethodName) jdk_42_method_155_code (2 : Nat) (Option.none : Option Jvm.ClassFile.FieldType)).before args0 about1 = true := code_word (m := ⟨7, 8⟩) (meth := k7m8) (c := k7c8) (by decide +kernel) rfl rfl rfl (by decide +kernel)
set_option maxRecDepth 65536 in
theorem w_c13 : (Jvm.Cond.code ({ cls := "jdk/internal/util/Preconditions", name := "checkIndex", desc := "(IILjava/util/function/BiFunction;)I" } : Jvm.MethodName) jdk_41_method_11_code (3 : Nat) (Option.some Jvm.ClassFile.FieldType.int)).before args0 about1 = true := code_word (m := ⟨11, 1⟩) (meth := k11m1) (c := k11c1) (by decide +kernel) rfl rfl rfl (by decide +kernel)
set_option maxRecDepth 65536 in
theorem w_c14 : (Jvm.Cond.code ({ cls := "java/lang/StringUTF16", name := "compress", desc := "([CII)[B" } : Jvm.MethodName) jdk_52_method_16_code (6 : Nat) (Option.some (Jvm.ClassFile.FieldType.array Jvm.ClassFile.FieldType.byte))).before args0 about1 = true := code_word (m := ⟨12, 8⟩) (meth := k12m8) (c := k12c8) (by decide +kernel) rfl rfl rfl (by decide +kernel)
set_option maxRecDepth 65536 in
theorem w_c15 : (Jvm.Cond.code ({ cls := "java/lang/StringUTF16", name := "compress", desc := "([CI[BII)I" } : Jvm.MethodName) jdk_52_method_21_code (7 : Nat) (Option.some Jvm.ClassFile.FieldType.int)).before args0 about1 = true := code_word (m := ⟨12, 9⟩) (meth := k12m9) (c := k12c9) (by decide +kernel) rfl rfl rfl (by decide +kernel)
set_option maxRecDepth 65536 in
theorem w_c16 : (Jvm.Cond.code ({ cls := "java/lang/StringUTF16", name := "coderFromArrayLen", desc := "([BI)B" } : Jvm.MethodName) jdk_52_method_15_code (2 : Nat) (Option.some Jvm.ClassFile.FieldType.byte)).before args0 about1 = true := code_word (m := ⟨12, 7⟩) (meth := k12m7) (c := k12c7) (by decide +kernel) rfl rfl rfl (by decide +kernel)
set_option maxRecDepth 65536 in
theorem w_c17 : (Jvm.Cond.code ({ cls := "com/example/revision/revision/core/RecordKeyIsValidNamePinLaw", name := "ok", desc := "(C)Z" } : Jvm.MethodName) method_3_code (5 : Nat) (Option.some Jvm.ClassFile.FieldType.boolean)).before args0 about1 = true := code_word (m := ⟨1, 2⟩) (meth := k1m2) (c := k1c2) (by decide +kernel) rfl rfl rfl (by decide +kernel)
set_option maxRecDepth 65536 in
theorem w_c18 : (Jvm.Cond.code ({ cls := "java/lang/StringUTF16", name := "toBytes", desc := "([CII)[B" } : Jvm.MethodName) jdk_52_method_14_code (5 : Nat) (Option.some (Jvm.ClassFile.FieldType.array Jvm.ClassFile.FieldType.byte))).before args0 about1 = true := code_word (m := ⟨12, 6⟩) (meth := k12m6) (c := k12c6) (by decide +kernel) rfl rfl rfl (by decide +kernel)
set_option maxRecDepth 65536 in
theorem w_c19 : (Jvm.Cond.code ({ cls := "java/lang/StringUTF16", name := "newBytesFor", desc := "(I)[B" } : Jvm.MethodName) jdk_52_method_2_code (1 : Nat) (Option.some (Jvm.ClassFile.FieldType.array Jvm.ClassFile.FieldType.byte))).before args0 about1 = true := code_word (m := ⟨12, 1⟩) (meth := k12m1) (c := k12c1) (by decide +kernel) rfl rfl rfl (by decide +kernel)
set_option maxRecDepth 65536 in
theorem w_c20 : (Jvm.Cond.code ({ cls := "java/lang/StringUTF16", name := "newBytesLength", desc := "(I)I" } : Jvm.MethodName) jdk_52_method_3_code (1 : Nat) (Option.some Jvm.ClassFile.FieldType.int)).before args0 about1 = true := code_word (m := ⟨12, 2⟩) (meth := k12m2) (c := k12c2) (by decide +kernel) rfl rfl rfl (by decide +kernel)
set_option maxRecDepth 65536 in
theorem w_c21 : (Jvm.Cond.code ({ cls := "java/lang/StringUTF16", name := "putChar", desc := "([BII)V" } : Jvm.MethodName) jdk_52_method_4_code (3 : Nat) (Option.none : Option Jvm.ClassFile.FieldType)).before args0 about1 = true := code_word (m := ⟨12, 3⟩) (meth := k12m3) (c := k12c3) (by decide +kernel) rfl rfl rfl (by decide +kernel)
set_option maxRecDepth 65536 in
theorem w_c22 : (Jvm.Cond.code ({ cls := "java/lang/StringUTF16", name := "getChar", desc := "([BI)C" } : Jvm.MethodName) jdk_52_method_5_code (2 : Nat) (Option.some Jvm.ClassFile.FieldType.char)).before args0 about1 = true := code_word (m := ⟨12, 4⟩) (meth := k12m4) (c := k12c4) (by decide +kernel) rfl rfl rfl (by decide +kernel)
set_option maxRecDepth 65536 in
theorem w_c23 : (Jvm.Cond.code ({ cls := "java/lang/StringUTF16", name := "charAt", desc := "([BI)C" } : Jvm.MethodName) jdk_52_method_83_code (2 : Nat) (Option.some Jvm.ClassFile.FieldType.char)).before args0 about1 = true := code_word (m := ⟨12, 10⟩) (meth := k12m10) (c := k12c10) (by decide +kernel) rfl rfl rfl (by decide +kernel)
set_option maxRecDepth 65536 in
theorem w_c24 : (Jvm.Cond.code ({ cls := "java/lang/StringUTF16", name := "checkIndex", desc := "(I[B)V" } : Jvm.MethodName) jdk_52_method_91_code (2 : Nat) (Option.none : Option Jvm.ClassFile.FieldType)).before args0 about1 = true := code_word (m := ⟨12, 11⟩) (meth := k12m11) (c := k12c11) (by decide +kernel) rfl rfl rfl (by decide +kernel)
set_option maxRecDepth 65536 in
theorem w_c25 : (Jvm.Cond.code ({ cls := "java/lang/StringUTF16", name := "length", desc := "([B)I" } : Jvm.MethodName) jdk_52_method_6_code (1 : Nat) (Option.some Jvm.ClassFile.FieldType.int)).before args0 about1 = true := code_word (m := ⟨12, 5⟩) (meth := k12m5) (c := k12c5) (by decide +kernel) rfl rfl rfl (by decide +kernel)
def codes1 : List Jvm.Cond := [Jvm.Cond.code x code maxLocals ret, Jvm.Cond.code ({ cls := "com/example/revision/revision/core/RecordKeyIsValidNamePinLaw", name := "pick", desc := "(IZ)C" } : Jvm.MethodName) method_2_code (2 : Nat) (Option.some Jvm.ClassFile.FieldType.char), Jvm.Cond.code ({ cls := "java/lang/String", name := "<init>", desc := "([C)V" } : Jvm.MethodName) jdk_42_method_3_code (2 : Nat) (Option.none : Option Jvm.ClassFile.FieldType), Jvm.Cond.code ({ cls := "java/lang/String", name := "<init>", desc := "([CIILjava/lang/Void;)V" } : Jvm.MethodName) jdk_42_method_149_code (6 : Nat) (Option.none : Option Jvm.ClassFile.FieldType), Jvm.Cond.code ({ cls := "java/lang/Object", name := "<init>", desc := "()V" } : Jvm.MethodName) object_method_1_code (1 : Nat) (Option.none : Option Jvm.ClassFile.FieldType), Jvm.Cond.code ({ cls := "com/example/revision/revision/core/RecordKey", name := "isValidName", desc := "(Ljava/lang/String;)Z" } : Jvm.MethodName) prog_6_method_2_code (4 : Nat) (Option.some Jvm.ClassFile.FieldType.boolean), Jvm.Cond.code ({ cls := "java/lang/String", name := "isEmpty", desc := "()Z" } : Jvm.MethodName) jdk_42_method_55_code (1 : Nat) (Option.some Jvm.ClassFile.FieldType.boolean), Jvm.Cond.code ({ cls := "java/lang/String", name := "length", desc := "()I" } : Jvm.MethodName) jdk_42_method_54_code (1 : Nat) (Option.some Jvm.ClassFile.FieldType.int), Jvm.Cond.code ({ cls := "java/lang/String", name := "coder", desc := "()B" } : Jvm.MethodName) jdk_42_method_152_code (1 : Nat) (Option.some Jvm.ClassFile.FieldType.byte), Jvm.Cond.code ({ cls := "java/lang/String", name := "charAt", desc := "(I)C" } : Jvm.MethodName) jdk_42_method_56_code (2 : Nat) (Option.some Jvm.ClassFile.FieldType.char), Jvm.Cond.code ({ cls := "java/lang/String", name := "isLatin1", desc := "()Z" } : Jvm.MethodName) jdk_42_method_154_code (1 : Nat) (Option.some Jvm.ClassFile.FieldType.boolean), Jvm.Cond.code ({ cls := "java/lang/StringLatin1", name := "charAt", desc := "([BI)C" } : Jvm.MethodName) jdk_43_method_2_code (2 : Nat) (Option.some Jvm.ClassFile.FieldType.char), Jvm.Cond.code ({ cls := "java/lang/String", name := "checkIndex", desc := "(II)V" } : Jvm.MethodName) jdk_42_method_155_code (2 : Nat) (Option.none : Option Jvm.ClassFile.FieldType), Jvm.Cond.code ({ cls := "jdk/internal/util/Preconditions", name := "checkIndex", desc := "(IILjava/util/function/BiFunction;)I" } : Jvm.MethodName) jdk_41_method_11_code (3 : Nat) (Option.some Jvm.ClassFile.FieldType.int), Jvm.Cond.code ({ cls := "java/lang/StringUTF16", name := "compress", desc := "([CII)[B" } : Jvm.MethodName) jdk_52_method_16_code (6 : Nat) (Option.some (Jvm.ClassFile.FieldType.array Jvm.ClassFile.FieldType.byte)), Jvm.Cond.code ({ cls := "java/lang/StringUTF16", name := "compress", desc := "([CI[BII)I" } : Jvm.MethodName) jdk_52_method_21_code (7 : Nat) (Option.some Jvm.ClassFile.FieldType.int), Jvm.Cond.code ({ cls := "java/lang/StringUTF16", name := "coderFromArrayLen", desc := "([BI)B" } : Jvm.MethodName) jdk_52_method_15_code (2 : Nat) (Option.some Jvm.ClassFile.FieldType.byte), Jvm.Cond.code ({ cls := "com/example/revision/revision/core/RecordKeyIsValidNamePinLaw", name := "ok", desc := "(C)Z" } : Jvm.MethodName) method_3_code (5 : Nat) (Option.some Jvm.ClassFile.FieldType.boolean), Jvm.Cond.code ({ cls := "java/lang/StringUTF16", name := "toBytes", desc := "([CII)[B" } : Jvm.MethodName) jdk_52_method_14_code (5 : Nat) (Option.some (Jvm.ClassFile.FieldType.array Jvm.ClassFile.FieldType.byte)), Jvm.Cond.code ({ cls := "java/lang/StringUTF16", name := "newBytesFor", desc := "(I)[B" } : Jvm.MethodName) jdk_52_method_2_code (1 : Nat) (Option.some (Jvm.ClassFile.FieldType.array Jvm.ClassFile.FieldType.byte)), Jvm.Cond.code ({ cls := "java/lang/StringUTF16", name := "newBytesLength", desc := "(I)I" } : Jvm.MethodName) jdk_52_method_3_code (1 : Nat) (Option.some Jvm.ClassFile.FieldType.int), Jvm.Cond.code ({ cls := "java/lang/StringUTF16", name := "putChar", desc := "([BII)V" } : Jvm.MethodName) jdk_52_method_4_code (3 : Nat) (Option.none : Option Jvm.ClassFile.FieldType), Jvm.Cond.code ({ cls := "java/lang/StringUTF16", name := "getChar", desc := "([BI)C" } : Jvm.MethodName) jdk_52_method_5_code (2 : Nat) (Option.some Jvm.ClassFile.FieldType.char), Jvm.Cond.code ({ cls := "java/lang/StringUTF16", name := "charAt", desc := "([BI)C" } : Jvm.MethodName) jdk_52_method_83_code (2 : Nat) (Option.some Jvm.ClassFile.FieldType.char), Jvm.Cond.code ({ cls := "java/lang/StringUTF16", name := "checkIndex", desc := "(I[B)V" } : Jvm.MethodName) jdk_52_method_91_code (2 : Nat) (Option.none : Option Jvm.ClassFile.FieldType), Jvm.Cond.code ({ cls := "java/lang/StringUTF16", name := "length", desc := "([B)I" } : Jvm.MethodName) jdk_52_method_6_code (1 : Nat) (Option.some Jvm.ClassFile.FieldType.int)]
set_option maxRecDepth 65536 in
theorem codes_eq : words1.filter isCode = codes1 := rfl
theorem w_codes : ∀ c ∈ words1.filter isCode, c.before args0 about1 = true := by
  rw [codes_eq]
  intro c hc
  simp only [codes1, List.mem_cons, List.not_mem_nil, or_false] at hc
  rcases hc with rfl | rfl | rfl | rfl | rfl | rfl | rfl | rfl | rfl | rfl | rfl | rfl | rfl | rfl | rfl | rfl | rfl | rfl | rfl | rfl | rfl | rfl | rfl | rfl | rfl | rfl
  · exact w_c0
  · exact w_c1
  · exact w_c2
  · exact w_c3
  · exact w_c4
  · exact w_c5
  · exact w_c6
  · exact w_c7
  · exact w_c8
  · exact w_c9
  · exact w_c10
  · exact w_c11
  · exact w_c12
  · exact w_c13
  · exact w_c14
  · exact w_c15
  · exact w_c16
  · exact w_c17
  · exact w_c18
  · exact w_c19
  · exact w_c20
  · exact w_c21
  · exact w_c22
  · exact w_c23
  · exact w_c24
  · exact w_c25
set_option maxRecDepth 65536 in
theorem w_t1 : (words1.take 24).all (fun c => isCode c || c.before args0 about1) = true := by decide +kernel
set_option maxRecDepth 65536 in
theorem w_t2 : ((words1.drop 24).take 24).all (fun c => isCode c || c.before args0 about1) = true := by decide +kernel
set_option maxRecDepth 65536 in
theorem w_t3 : (((words1.drop 24).drop 24).take 24).all (fun c => isCode c || c.before args0 about1) = true := by decide +kernel
set_option maxRecDepth 65536 in
theorem w_t4 : ((((words1.drop 24).drop 24).drop 24).take 24).all (fun c => isCode c || c.before args0 about1) = true := by decide +kernel
set_option maxRecDepth 65536 in
theorem w_t5 : ((((words1.drop 24).drop 24).drop 24).drop 24).all (fun c => isCode c || c.before args0 about1) = true := by decide +kernel
theorem w_tables : (allAtoms (Jvm.Cond.code x code maxLocals ret :: tables_1)).before args0 about1 = true := by
  rw [allAtoms_all]
  show words1.all (fun c => c.before args0 about1) = true
  refine all_split ?_ w_codes
  rw [← List.take_append_drop 24 words1, List.all_append, w_t1, ← List.take_append_drop 24 (words1.drop 24), List.all_append, w_t2, ← List.take_append_drop 24 ((words1.drop 24).drop 24), List.all_append, w_t3, ← List.take_append_drop 24 (((words1.drop 24).drop 24).drop 24), List.all_append, w_t4, w_t5]
  rfl
set_option maxRecDepth 65536 in
theorem w_rest : rest_1_c.before args0 about1 = true := by decide +kernel
set_option maxRecDepth 65536 in
theorem w_case : (Jvm.Cond.and given_1 narrow_1).before args0 about1 = true := by decide +kernel
set_option maxRecDepth 65536 in
theorem w_consts : constsHeld consts_1 about1 := Jvm.Lit.constsHeldB_iff.mp (by decide +kernel)
theorem w_applies : (headSpec (Jvm.Cond.code x code maxLocals ret :: tables_1) room_1).applies x e0.platform about1 = true :=
  (Spec.applies_iff w_frames).mpr ⟨w_running, w_runnable, w_alone, w_named, w_hears, w_ripe, w_room, w_tables⟩
theorem atStart : AtStart classFile x code maxLocals ret World_1 tables_1 room_1 Calls_1 rest_1 Pre_1 launch0 p0 e0 about1 theMethod args0 below0 :=
  ⟨lists_1, trivial, launch0.admits_env _ _ _, launch0.least_env, fairChoices_fair.cas, fairChoices_fair.clock, w_frames, w_args, w_heap, w_applies, ⟨w_consts, trivial⟩, w_rest, w_case⟩
end start1
theorem witness_1 : WitnessClaimed_1 := ⟨start1.p0, start1.e0, start1.about1, start1.theMethod, start1.args0, start1.below0, start1.atStart⟩
end Jvm.Pilot.@@N@@
