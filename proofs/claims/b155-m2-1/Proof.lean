import JvmDerived
import JvmDerived.Pilot.@@N@@Statement
import JvmDerived.Pilot.@@N@@Code
set_option linter.unusedVariables false
set_option linter.unusedSimpArgs false
namespace Jvm.Pilot.@@N@@
open Jvm Jvm.ClassFile Sem Op Lib Jvm.Free Jvm.Stand Jvm.LawKit Jvm.RoadKit Bundle Jvm.Pilot.@@N@@.Jvm.D
section OwnPre
def Gl (tb : Tables) (e : Env) (below : List Frame) (P : State → Outcome → Prop) (T : State) (m : MethodId) (pc : Nat) (L : Array Slot) (S : List Value) : Prop := ∃ s₂ o, Steps tb e below (T.setTop (mkF m pc L S)) s₂ ∧ P s₂ o
def Wk (p : Program) (l : Launch) (e : Env) (R : Room) (s : State) (m : MethodId) (args : Array Value) (below : List Frame) (meth : Method) (c : Code) (own : String) (Z : State) (hb : Heap) (ws : List Addr) (I : Heap → Prop) (T : State) (h : Heap) (locs : List Loc) (cells slots : Nat) : Prop :=
  Stand p l e R s m args below meth c T locs cells slots ∧ p.tables.exec = Jvm.exec ∧ T.heap = h ∧ Z.Warmed39 s.vm ∧ s.vm.findClass own = some m.cls ∧ Old Z Z.heap.size h ∧ Fr Z.heap.size locs ∧ Keep hb h ws ∧ I h
variable {p : Program} {l : Launch} {e : Env} {R : Room} {s : State} {m : MethodId} {args : Array Value} {below : List Frame} {meth : Method} {c : Code} {T : State} {locs : List Loc} {cells slots cells' slots' : Nat} {Z : State} {a0 : Array Value} {h hb : Heap} {ws : List Addr} {own : String} {I : Heap → Prop} {P : State → Outcome → Prop} {pc pc' : Nat} {L L' : Array Slot} {S : List Value}
theorem Gl.st {tb : Tables} {T T' : State} {S' : List Value} (k : ∀ target, Steps tb e below (T'.setTop (mkF m pc' L' S')) target → Steps tb e below (T.setTop (mkF m pc L S)) target) (G : Gl tb e below P T' m pc' L' S') : Gl tb e below P T m pc L S := by
  obtain ⟨s2, o, h1, h2⟩ := G
  exact ⟨s2, o, k _ h1, h2⟩
theorem Gl.tr {tb : Tables} {T T' : State} {S' : List Value} (k : Steps tb e below (T.setTop (mkF m pc L S)) (T'.setTop (mkF m pc' L' S'))) (G : Gl tb e below P T' m pc' L' S') : Gl tb e below P T m pc L S := by
  obtain ⟨s2, o, h1, h2⟩ := G
  exact ⟨s2, o, k.trans h1, h2⟩
theorem Wk.ox (W : Wk p l e R s m args below meth c own Z hb ws I T h locs cells slots) : Ext Z.heap h := W.2.2.2.2.2.1.2
theorem Wk.old (W : Wk p l e R s m args below meth c own Z hb ws I T h locs cells slots) : Old Z Z.heap.size h := W.2.2.2.2.2.1
theorem Wk.keep (W : Wk p l e R s m args below meth c own Z hb ws I T h locs cells slots) : Keep hb h ws := W.2.2.2.2.2.2.2.1
theorem Wk.zs (W : Wk p l e R s m args below meth c own Z hb ws I T h locs cells slots) : Z.heap.size ≤ h.size := W.ox.1
theorem own_ne {x b n : Nat} (h1 : x < n) (h2 : n ≤ b) : x ≠ b := Nat.ne_of_lt (Nat.lt_of_lt_of_le h1 h2)
theorem own_ne' {x b n : Nat} (h1 : x < n) (h2 : n ≤ b) : b ≠ x := Ne.symm (own_ne h1 h2)
theorem o_iloadN (W : Wk p l e R s m args below meth c own Z hb ws I T h locs cells slots) {k : Fin 4} {v : Int32} (pc' : Nat) (hd : decode c.code pc = .ok (.iload_n k, 1)) (hl : L[k.val]? = some (.val (.int v))) (hp : pc + 1 = pc') (K : Gl p.tables e below P T m pc' L (.int v :: S)) : Gl p.tables e below P T m pc L S := by
  subst hp; exact Gl.st (fun _ q => XS.iloadN W.1.here W.2.1 rfl hd hl q) K
theorem o_iload (W : Wk p l e R s m args below meth c own Z hb ws I T h locs cells slots) {k : Nat} {v : Int32} (pc' : Nat) (hd : decode c.code pc = .ok (.iload k, 2)) (hl : L[k]? = some (.val (.int v))) (hp : pc + 2 = pc') (K : Gl p.tables e below P T m pc' L (.int v :: S)) : Gl p.tables e below P T m pc L S := by
  subst hp; exact Gl.st (fun _ q => XS.iload W.1.here W.2.1 rfl hd hl q) K
theorem o_istoreN (W : Wk p l e R s m args below meth c own Z hb ws I T h locs cells slots) {k : Fin 4} {v : Int32} {L' : Array Slot} (pc' : Nat) (hd : decode c.code pc = .ok (.istore_n k, 1)) (hl : storeLocals L k.val (.int v) = some L') (hp : pc + 1 = pc') (K : Gl p.tables e below P T m pc' L' S) : Gl p.tables e below P T m pc L (.int v :: S) := by
  subst hp; exact Gl.st (fun _ q => XS.istoreN W.1.here W.2.1 rfl hd rfl hl q) K
theorem o_istore (W : Wk p l e R s m args below meth c own Z hb ws I T h locs cells slots) {k : Nat} {v : Int32} {L' : Array Slot} (pc' : Nat) (hd : decode c.code pc = .ok (.istore k, 2)) (hl : storeLocals L k (.int v) = some L') (hp : pc + 2 = pc') (K : Gl p.tables e below P T m pc' L' S) : Gl p.tables e below P T m pc L (.int v :: S) := by
  subst hp; exact Gl.st (fun _ q => XS.istore W.1.here W.2.1 rfl hd rfl hl q) K
theorem o_lloadN (W : Wk p l e R s m args below meth c own Z hb ws I T h locs cells slots) {k : Fin 4} {v : Int64} (pc' : Nat) (hd : decode c.code pc = .ok (.lload_n k, 1)) (hl : L[k.val]? = some (.val (.long v))) (hp : pc + 1 = pc') (K : Gl p.tables e below P T m pc' L (.long v :: S)) : Gl p.tables e below P T m pc L S := by
  subst hp; exact Gl.st (fun _ q => XS.lloadN W.1.here W.2.1 rfl hd hl q) K
theorem o_lload (W : Wk p l e R s m args below meth c own Z hb ws I T h locs cells slots) {k : Nat} {v : Int64} (pc' : Nat) (hd : decode c.code pc = .ok (.lload k, 2)) (hl : L[k]? = some (.val (.long v))) (hp : pc + 2 = pc') (K : Gl p.tables e below P T m pc' L (.long v :: S)) : Gl p.tables e below P T m pc L S := by
  subst hp; exact Gl.st (fun _ q => XS.lload W.1.here W.2.1 rfl hd hl q) K
theorem o_lstoreN (W : Wk p l e R s m args below meth c own Z hb ws I T h locs cells slots) {k : Fin 4} {v : Int64} {L' : Array Slot} (pc' : Nat) (hd : decode c.code pc = .ok (.lstore_n k, 1)) (hl : storeLocals L k.val (.long v) = some L') (hp : pc + 1 = pc') (K : Gl p.tables e below P T m pc' L' S) : Gl p.tables e below P T m pc L (.long v :: S) := by
  subst hp; exact Gl.st (fun _ q => XS.lstoreN W.1.here W.2.1 rfl hd rfl hl q) K
theorem o_lstore (W : Wk p l e R s m args below meth c own Z hb ws I T h locs cells slots) {k : Nat} {v : Int64} {L' : Array Slot} (pc' : Nat) (hd : decode c.code pc = .ok (.lstore k, 2)) (hl : storeLocals L k (.long v) = some L') (hp : pc + 2 = pc') (K : Gl p.tables e below P T m pc' L' S) : Gl p.tables e below P T m pc L (.long v :: S) := by
  subst hp; exact Gl.st (fun _ q => XS.lstore W.1.here W.2.1 rfl hd rfl hl q) K
theorem o_aloadN (W : Wk p l e R s m args below meth c own Z hb ws I T h locs cells slots) {k : Fin 4} {v : Value} (pc' : Nat) (hd : decode c.code pc = .ok (.aload_n k, 1)) (hl : L[k.val]? = some (.val v)) (hv : v.isRef = true) (hp : pc + 1 = pc') (K : Gl p.tables e below P T m pc' L (v :: S)) : Gl p.tables e below P T m pc L S := by
  subst hp; exact Gl.st (fun _ q => XS.aloadN W.1.here W.2.1 rfl hd hl hv q) K
theorem o_aload (W : Wk p l e R s m args below meth c own Z hb ws I T h locs cells slots) {k : Nat} {v : Value} (pc' : Nat) (hd : decode c.code pc = .ok (.aload k, 2)) (hl : L[k]? = some (.val v)) (hv : v.isRef = true) (hp : pc + 2 = pc') (K : Gl p.tables e below P T m pc' L (v :: S)) : Gl p.tables e below P T m pc L S := by
  subst hp; exact Gl.st (fun _ q => XS.aload W.1.here W.2.1 rfl hd hl hv q) K
theorem o_astoreN (W : Wk p l e R s m args below meth c own Z hb ws I T h locs cells slots) {k : Fin 4} {v : Value} {L' : Array Slot} (pc' : Nat) (hd : decode c.code pc = .ok (.astore_n k, 1)) (hv : v.isRef = true) (hl : storeLocals L k.val v = some L') (hp : pc + 1 = pc') (K : Gl p.tables e below P T m pc' L' S) : Gl p.tables e below P T m pc L (v :: S) := by
  subst hp; exact Gl.st (fun _ q => XS.astoreN W.1.here W.2.1 rfl hd rfl hv hl q) K
theorem o_astore (W : Wk p l e R s m args below meth c own Z hb ws I T h locs cells slots) {k : Nat} {v : Value} {L' : Array Slot} (pc' : Nat) (hd : decode c.code pc = .ok (.astore k, 2)) (hv : v.isRef = true) (hl : storeLocals L k v = some L') (hp : pc + 2 = pc') (K : Gl p.tables e below P T m pc' L' S) : Gl p.tables e below P T m pc L (v :: S) := by
  subst hp; exact Gl.st (fun _ q => XS.astore W.1.here W.2.1 rfl hd rfl hv hl q) K
theorem o_iconst (W : Wk p l e R s m args below meth c own Z hb ws I T h locs cells slots) {i : Int} {v : Int32} (pc' : Nat) (hd : decode c.code pc = .ok (.iconst i, 1)) (hv : Int32.ofInt i = v) (hp : pc + 1 = pc') (K : Gl p.tables e below P T m pc' L (.int v :: S)) : Gl p.tables e below P T m pc L S := by
  subst hp; exact Gl.st (fun _ q => XT.iconstV W.1.here W.2.1 rfl v hd hv q) K
theorem o_bipush (W : Wk p l e R s m args below meth c own Z hb ws I T h locs cells slots) {i : Int} {v : Int32} (pc' : Nat) (hd : decode c.code pc = .ok (.bipush i, 2)) (hv : (Int8.ofInt i).toInt32 = v) (hp : pc + 2 = pc') (K : Gl p.tables e below P T m pc' L (.int v :: S)) : Gl p.tables e below P T m pc L S := by
  subst hp; exact Gl.st (fun _ q => XT.bipushV W.1.here W.2.1 rfl v hd hv q) K
theorem o_sipush (W : Wk p l e R s m args below meth c own Z hb ws I T h locs cells slots) {i : Int} {v : Int32} (pc' : Nat) (hd : decode c.code pc = .ok (.sipush i, 3)) (hv : (Int16.ofInt i).toInt32 = v) (hp : pc + 3 = pc') (K : Gl p.tables e below P T m pc' L (.int v :: S)) : Gl p.tables e below P T m pc L S := by
  subst hp; exact Gl.st (fun _ q => XT.sipushV W.1.here W.2.1 rfl v hd hv q) K
theorem o_lconst (W : Wk p l e R s m args below meth c own Z hb ws I T h locs cells slots) {k : Fin 2} {v : Int64} (pc' : Nat) (hd : decode c.code pc = .ok (.lconst k, 1)) (hv : Int64.ofNat k = v) (hp : pc + 1 = pc') (K : Gl p.tables e below P T m pc' L (.long v :: S)) : Gl p.tables e below P T m pc L S := by
  subst hp; exact Gl.st (fun _ q => XT.lconstV W.1.here W.2.1 rfl v hd hv q) K
theorem o_aconstNull (W : Wk p l e R s m args below meth c own Z hb ws I T h locs cells slots)  (pc' : Nat) (hd : decode c.code pc = .ok (.aconst_null, 1)) (hp : pc + 1 = pc') (K : Gl p.tables e below P T m pc' L (.null :: S)) : Gl p.tables e below P T m pc L S := by
  subst hp; exact Gl.st (fun _ q => XS.aconstNull W.1.here W.2.1 rfl hd q) K
theorem o_iadd (W : Wk p l e R s m args below meth c own Z hb ws I T h locs cells slots) {x y v : Int32} (pc' : Nat) (hd : decode c.code pc = .ok (.iadd, 1)) (hv : x + y = v) (hp : pc + 1 = pc') (K : Gl p.tables e below P T m pc' L (.int v :: S)) : Gl p.tables e below P T m pc L (.int y :: .int x :: S) := by
  subst hp; exact Gl.st (fun _ q => XS.iadd W.1.here W.2.1 rfl hd rfl (by rw [hv]; exact q)) K
theorem o_ladd (W : Wk p l e R s m args below meth c own Z hb ws I T h locs cells slots) {x y v : Int64} (pc' : Nat) (hd : decode c.code pc = .ok (.ladd, 1)) (hv : x + y = v) (hp : pc + 1 = pc') (K : Gl p.tables e below P T m pc' L (.long v :: S)) : Gl p.tables e below P T m pc L (.long y :: .long x :: S) := by
  subst hp; exact Gl.st (fun _ q => XS.ladd W.1.here W.2.1 rfl hd rfl (by rw [hv]; exact q)) K
theorem o_isub (W : Wk p l e R s m args below meth c own Z hb ws I T h locs cells slots) {x y v : Int32} (pc' : Nat) (hd : decode c.code pc = .ok (.isub, 1)) (hv : x - y = v) (hp : pc + 1 = pc') (K : Gl p.tables e below P T m pc' L (.int v :: S)) : Gl p.tables e below P T m pc L (.int y :: .int x :: S) := by
  subst hp; exact Gl.st (fun _ q => XS.isub W.1.here W.2.1 rfl hd rfl (by rw [hv]; exact q)) K
theorem o_lsub (W : Wk p l e R s m args below meth c own Z hb ws I T h locs cells slots) {x y v : Int64} (pc' : Nat) (hd : decode c.code pc = .ok (.lsub, 1)) (hv : x - y = v) (hp : pc + 1 = pc') (K : Gl p.tables e below P T m pc' L (.long v :: S)) : Gl p.tables e below P T m pc L (.long y :: .long x :: S) := by
  subst hp; exact Gl.st (fun _ q => XS.lsub W.1.here W.2.1 rfl hd rfl (by rw [hv]; exact q)) K
theorem o_lmul (W : Wk p l e R s m args below meth c own Z hb ws I T h locs cells slots) {x y v : Int64} (pc' : Nat) (hd : decode c.code pc = .ok (.lmul, 1)) (hv : x * y = v) (hp : pc + 1 = pc') (K : Gl p.tables e below P T m pc' L (.long v :: S)) : Gl p.tables e below P T m pc L (.long y :: .long x :: S) := by
  subst hp; exact Gl.st (fun _ q => XS.lmul W.1.here W.2.1 rfl hd rfl (by rw [hv]; exact q)) K
theorem o_iand (W : Wk p l e R s m args below meth c own Z hb ws I T h locs cells slots) {x y v : Int32} (pc' : Nat) (hd : decode c.code pc = .ok (.iand, 1)) (hv : x &&& y = v) (hp : pc + 1 = pc') (K : Gl p.tables e below P T m pc' L (.int v :: S)) : Gl p.tables e below P T m pc L (.int y :: .int x :: S) := by
  subst hp; exact Gl.st (fun _ q => XS.iand W.1.here W.2.1 rfl hd rfl (by rw [hv]; exact q)) K
theorem o_land (W : Wk p l e R s m args below meth c own Z hb ws I T h locs cells slots) {x y v : Int64} (pc' : Nat) (hd : decode c.code pc = .ok (.land, 1)) (hv : x &&& y = v) (hp : pc + 1 = pc') (K : Gl p.tables e below P T m pc' L (.long v :: S)) : Gl p.tables e below P T m pc L (.long y :: .long x :: S) := by
  subst hp; exact Gl.st (fun _ q => XS.land W.1.here W.2.1 rfl hd rfl (by rw [hv]; exact q)) K
theorem o_lor (W : Wk p l e R s m args below meth c own Z hb ws I T h locs cells slots) {x y v : Int64} (pc' : Nat) (hd : decode c.code pc = .ok (.lor, 1)) (hv : x ||| y = v) (hp : pc + 1 = pc') (K : Gl p.tables e below P T m pc' L (.long v :: S)) : Gl p.tables e below P T m pc L (.long y :: .long x :: S) := by
  subst hp; exact Gl.st (fun _ q => XS.lor W.1.here W.2.1 rfl hd rfl (by rw [hv]; exact q)) K
theorem o_lxor (W : Wk p l e R s m args below meth c own Z hb ws I T h locs cells slots) {x y v : Int64} (pc' : Nat) (hd : decode c.code pc = .ok (.lxor, 1)) (hv : x ^^^ y = v) (hp : pc + 1 = pc') (K : Gl p.tables e below P T m pc' L (.long v :: S)) : Gl p.tables e below P T m pc L (.long y :: .long x :: S) := by
  subst hp; exact Gl.st (fun _ q => XS.lxor W.1.here W.2.1 rfl hd rfl (by rw [hv]; exact q)) K
theorem o_ishl (W : Wk p l e R s m args below meth c own Z hb ws I T h locs cells slots) {x v : Int32} {y : Int32} (pc' : Nat) (hd : decode c.code pc = .ok (.ishl, 1)) (hv : x <<< (y &&& 31) = v) (hp : pc + 1 = pc') (K : Gl p.tables e below P T m pc' L (.int v :: S)) : Gl p.tables e below P T m pc L (.int y :: .int x :: S) := by
  subst hp; exact Gl.st (fun _ q => XS.ishl W.1.here W.2.1 rfl hd rfl (by rw [hv]; exact q)) K
theorem o_iushr (W : Wk p l e R s m args below meth c own Z hb ws I T h locs cells slots) {x v : Int32} {y : Int32} (pc' : Nat) (hd : decode c.code pc = .ok (.iushr, 1)) (hv : (x.toUInt32 >>> (y &&& 31).toUInt32).toInt32 = v) (hp : pc + 1 = pc') (K : Gl p.tables e below P T m pc' L (.int v :: S)) : Gl p.tables e below P T m pc L (.int y :: .int x :: S) := by
  subst hp; exact Gl.st (fun _ q => XS.iushr W.1.here W.2.1 rfl hd rfl (by rw [hv]; exact q)) K
theorem o_lshl (W : Wk p l e R s m args below meth c own Z hb ws I T h locs cells slots) {x v : Int64} {y : Int32} (pc' : Nat) (hd : decode c.code pc = .ok (.lshl, 1)) (hv : x <<< (y &&& 0x3f).toInt64 = v) (hp : pc + 1 = pc') (K : Gl p.tables e below P T m pc' L (.long v :: S)) : Gl p.tables e below P T m pc L (.int y :: .long x :: S) := by
  subst hp; exact Gl.st (fun _ q => XS.lshl W.1.here W.2.1 rfl hd rfl (by rw [hv]; exact q)) K
theorem o_lushr (W : Wk p l e R s m args below meth c own Z hb ws I T h locs cells slots) {x v : Int64} {y : Int32} (pc' : Nat) (hd : decode c.code pc = .ok (.lushr, 1)) (hv : (x.toUInt64 >>> (y &&& 0x3f).toInt64.toUInt64).toInt64 = v) (hp : pc + 1 = pc') (K : Gl p.tables e below P T m pc' L (.long v :: S)) : Gl p.tables e below P T m pc L (.int y :: .long x :: S) := by
  subst hp; exact Gl.st (fun _ q => XS.lushr W.1.here W.2.1 rfl hd rfl (by rw [hv]; exact q)) K
theorem o_lneg (W : Wk p l e R s m args below meth c own Z hb ws I T h locs cells slots) {x : Int64} {v : Int64} (pc' : Nat) (hd : decode c.code pc = .ok (.lneg, 1)) (hv : -x = v) (hp : pc + 1 = pc') (K : Gl p.tables e below P T m pc' L (.long v :: S)) : Gl p.tables e below P T m pc L (.long x :: S) := by
  subst hp; exact Gl.st (fun _ q => XS.lneg W.1.here W.2.1 rfl hd rfl (by rw [hv]; exact q)) K
theorem o_i2l (W : Wk p l e R s m args below meth c own Z hb ws I T h locs cells slots) {x : Int32} {v : Int64} (pc' : Nat) (hd : decode c.code pc = .ok (.i2l, 1)) (hv : x.toInt64 = v) (hp : pc + 1 = pc') (K : Gl p.tables e below P T m pc' L (.long v :: S)) : Gl p.tables e below P T m pc L (.int x :: S) := by
  subst hp; exact Gl.st (fun _ q => XS.i2l W.1.here W.2.1 rfl hd rfl (by rw [hv]; exact q)) K
theorem o_l2i (W : Wk p l e R s m args below meth c own Z hb ws I T h locs cells slots) {x : Int64} {v : Int32} (pc' : Nat) (hd : decode c.code pc = .ok (.l2i, 1)) (hv : x.toInt32 = v) (hp : pc + 1 = pc') (K : Gl p.tables e below P T m pc' L (.int v :: S)) : Gl p.tables e below P T m pc L (.long x :: S) := by
  subst hp; exact Gl.st (fun _ q => XS.l2i W.1.here W.2.1 rfl hd rfl (by rw [hv]; exact q)) K
theorem o_lcmp (W : Wk p l e R s m args below meth c own Z hb ws I T h locs cells slots) {x y : Int64} {v : Int32} (pc' : Nat) (hd : decode c.code pc = .ok (.lcmp, 1)) (hv : lcmpW x y = v) (hp : pc + 1 = pc') (K : Gl p.tables e below P T m pc' L (.int v :: S)) : Gl p.tables e below P T m pc L (.long y :: .long x :: S) := by
  subst hp; exact Gl.st (fun _ q => XS.lcmp W.1.here W.2.1 rfl hd rfl (by rw [show (if x > y then (1 : Int32) else if x = y then 0 else -1) = v from hv]; exact q)) K
theorem o_ldiv (W : Wk p l e R s m args below meth c own Z hb ws I T h locs cells slots) {x y v : Int64} (pc' : Nat) (hd : decode c.code pc = .ok (.ldiv, 1)) (hy : y ≠ 0) (hv : x / y = v) (hp : pc + 1 = pc') (K : Gl p.tables e below P T m pc' L (.long v :: S)) : Gl p.tables e below P T m pc L (.long y :: .long x :: S) := by
  subst hp; exact Gl.st (fun _ q => XS.ldiv W.1.here W.2.1 rfl hd rfl hy (by rw [hv]; exact q)) K
theorem o_irem (W : Wk p l e R s m args below meth c own Z hb ws I T h locs cells slots) {x y v : Int32} (pc' : Nat) (hd : decode c.code pc = .ok (.irem, 1)) (hy : y ≠ 0) (hv : x % y = v) (hp : pc + 1 = pc') (K : Gl p.tables e below P T m pc' L (.int v :: S)) : Gl p.tables e below P T m pc L (.int y :: .int x :: S) := by
  subst hp; exact Gl.st (fun _ q => iremM W.1 W.2.1 rfl hd rfl hy (by rw [hv]; exact q)) K
theorem o_lrem (W : Wk p l e R s m args below meth c own Z hb ws I T h locs cells slots) {x y v : Int64} (pc' : Nat) (hd : decode c.code pc = .ok (.lrem, 1)) (hy : y ≠ 0) (hv : x - x / y * y = v) (hp : pc + 1 = pc') (K : Gl p.tables e below P T m pc' L (.long v :: S)) : Gl p.tables e below P T m pc L (.long y :: .long x :: S) := by
  subst hp; exact Gl.st (fun _ q => XS.lrem W.1.here W.2.1 rfl hd rfl hy (by rw [hv]; exact q)) K
theorem o_iinc (W : Wk p l e R s m args below meth c own Z hb ws I T h locs cells slots) {k : Nat} {i : Int} {x v : Int32} {L' : Array Slot} (pc' : Nat) (hd : decode c.code pc = .ok (.iinc k i, 3)) (hl : L[k]? = some (.val (.int x))) (hv : x + Int32.ofInt i = v) (hl' : storeLocals L k (.int v) = some L') (hp : pc + 3 = pc') (K : Gl p.tables e below P T m pc' L' S) : Gl p.tables e below P T m pc L S := by
  subst hp; exact Gl.st (fun _ q => XS.iinc W.1.here W.2.1 rfl hd hl (by rw [hv]; exact hl') q) K
theorem o_dup (W : Wk p l e R s m args below meth c own Z hb ws I T h locs cells slots) {x : Value} (pc' : Nat) (hd : decode c.code pc = .ok (.dup, 1)) (hc : x.category = 1) (hp : pc + 1 = pc') (K : Gl p.tables e below P T m pc' L (x :: x :: S)) : Gl p.tables e below P T m pc L (x :: S) := by
  subst hp; exact Gl.st (fun _ q => XS.dup W.1.here W.2.1 rfl hd rfl hc q) K
theorem o_dupX1 (W : Wk p l e R s m args below meth c own Z hb ws I T h locs cells slots) {x y : Value} (pc' : Nat) (hd : decode c.code pc = .ok (.dup_x1, 1)) (hc : x.category = 1) (hc' : y.category = 1) (hp : pc + 1 = pc') (K : Gl p.tables e below P T m pc' L (x :: y :: x :: S)) : Gl p.tables e below P T m pc L (x :: y :: S) := by
  subst hp; exact Gl.st (fun _ q => XS.dupX1 W.1.here W.2.1 rfl hd rfl hc hc' q) K
theorem o_goto (W : Wk p l e R s m args below meth c own Z hb ws I T h locs cells slots) {o : Int} (pc' : Nat) (hd : decode c.code pc = .ok (.goto o, 3)) (ho : 0 ≤ (pc : Int) + o) (hp : ((pc : Int) + o).toNat = pc') (K : Gl p.tables e below P T m pc' L S) : Gl p.tables e below P T m pc L S := by
  exact Gl.st (fun _ q => XS.goto W.1.here W.2.1 rfl (pc0 := pc) rfl hd ho hp q) K
theorem o_ifY (W : Wk p l e R s m args below meth c own Z hb ws I T h locs cells slots) {o : Int} {cd : ClassFile.Cond} {x : Int32} (pc' : Nat) (hd : decode c.code pc = .ok (.ifCond cd o, 3)) (hc : ifCond.holds cd x = true) (ho : 0 ≤ (pc : Int) + o) (hp : ((pc : Int) + o).toNat = pc') (K : Gl p.tables e below P T m pc' L S) : Gl p.tables e below P T m pc L (.int x :: S) := by
  exact Gl.st (fun _ q => XS.ifYes W.1.here W.2.1 rfl (pc0 := pc) rfl hd rfl hc ho hp q) K
theorem o_ifN (W : Wk p l e R s m args below meth c own Z hb ws I T h locs cells slots) {o : Int} {cd : ClassFile.Cond} {x : Int32} (pc' : Nat) (hd : decode c.code pc = .ok (.ifCond cd o, 3)) (hc : ifCond.holds cd x = false) (hp : pc + 3 = pc') (K : Gl p.tables e below P T m pc' L S) : Gl p.tables e below P T m pc L (.int x :: S) := by
  subst hp; exact Gl.st (fun _ q => XS.ifNo W.1.here W.2.1 rfl hd rfl hc q) K
theorem o_icmpY (W : Wk p l e R s m args below meth c own Z hb ws I T h locs cells slots) {o : Int} {cd : ClassFile.Cond} {x y : Int32} (pc' : Nat) (hd : decode c.code pc = .ok (.if_icmp cd o, 3)) (hc : if_icmp.holds cd x y = true) (ho : 0 ≤ (pc : Int) + o) (hp : ((pc : Int) + o).toNat = pc') (K : Gl p.tables e below P T m pc' L S) : Gl p.tables e below P T m pc L (.int y :: .int x :: S) := by
  exact Gl.st (fun _ q => XS.icmpYes W.1.here W.2.1 rfl (pc0 := pc) rfl hd rfl hc ho hp q) K
theorem o_icmpN (W : Wk p l e R s m args below meth c own Z hb ws I T h locs cells slots) {o : Int} {cd : ClassFile.Cond} {x y : Int32} (pc' : Nat) (hd : decode c.code pc = .ok (.if_icmp cd o, 3)) (hc : if_icmp.holds cd x y = false) (hp : pc + 3 = pc') (K : Gl p.tables e below P T m pc' L S) : Gl p.tables e below P T m pc L (.int y :: .int x :: S) := by
  subst hp; exact Gl.st (fun _ q => XS.icmpNo W.1.here W.2.1 rfl hd rfl hc q) K
theorem o_ifnullN (W : Wk p l e R s m args below meth c own Z hb ws I T h locs cells slots) {o : Int} {b : Addr} (pc' : Nat) (hd : decode c.code pc = .ok (.ifnull o, 3)) (hp : pc + 3 = pc') (K : Gl p.tables e below P T m pc' L S) : Gl p.tables e below P T m pc L (.ref b :: S) := by
  subst hp; exact Gl.st (fun _ q => XS.ifnullNo W.1.here W.2.1 rfl hd rfl q) K
theorem o_ifnonnullN (W : Wk p l e R s m args below meth c own Z hb ws I T h locs cells slots) {o : Int} (pc' : Nat) (hd : decode c.code pc = .ok (.ifnonnull o, 3)) (hp : pc + 3 = pc') (K : Gl p.tables e below P T m pc' L S) : Gl p.tables e below P T m pc L (.null :: S) := by
  subst hp; exact Gl.st (fun _ q => XS.ifnonnullNo W.1.here W.2.1 rfl hd rfl q) K
theorem o_getF (W : Wk p l e R s m args below meth c own Z hb ws I T h locs cells slots) {R0 O n d : String} {index : Nat} (w : (Cond.fieldLink own index R0 n d).before a0 Z = true) (via : Via Z R0 O n d) {a : Addr} {v : Value} (F : Fld Z h a O n d v) (pc' : Nat) (hd : decode c.code pc = .ok (.getfield index, 3)) (hp : pc + 3 = pc')
    (K : ∀ T', Wk p l e R s m args below meth c own Z hb ws I T' h locs cells slots → Gl p.tables e below P T' m pc' L (v :: S)) : Gl p.tables e below P T m pc L (.ref a :: S) := by
  subst hp
  obtain ⟨X, hx, eT, hZ, ho, r⟩ := W
  obtain ⟨T', X', e', st⟩ := getF X hx hZ ho (host := "") (Or.inl w) via eT F (g := mkF m pc L (.ref a :: S)) rfl rfl hd
  exact Gl.st st (K T' ⟨X', hx, e', hZ, ho, r⟩)
theorem o_getS (W : Wk p l e R s m args below meth c own Z hb ws I T h locs cells slots) {R0 O n d : String} {index : Nat} (w : (Cond.fieldLink own index R0 n d).before a0 Z = true) (via : Via Z R0 O n d) {v : Value} (F : Sta Z h O n d v) (pc' : Nat) (hd : decode c.code pc = .ok (.getstatic index, 3)) (hp : pc + 3 = pc')
    (K : ∀ T', Wk p l e R s m args below meth c own Z hb ws I T' h locs cells slots → Gl p.tables e below P T' m pc' L (v :: S)) : Gl p.tables e below P T m pc L S := by
  subst hp
  obtain ⟨X, hx, eT, hZ, ho, r⟩ := W
  obtain ⟨T', X', e', st⟩ := getS (host := "") X hx hZ ho w via eT F (g := mkF m pc L S) rfl hd
  exact Gl.st st (K T' ⟨X', hx, e', hZ, ho, r⟩)
theorem o_putF (W : Wk p l e R s m args below meth c own Z hb ws I T h locs cells slots) {R0 O n d C : String} {index kk : Nat} {ty : FieldType} (w : (Cond.fieldLink own index R0 n d).before a0 Z = true) (via : Via Z R0 O n d) {a : Addr} {v v' old : Value} (F : Fld Z h a O n d old) (E : Exa Z h a C)
    (Lz : (Cond.lays C O n d).before a0 Z = true ∨ ((Cond.laysFinal C O n d).before a0 Z = true ∧ own = O ∧ meth.name = "<init>")) (wi : (Cond.instantiable C kk).before a0 Z = true) (hty : parseFieldDescriptor d = some ty) (hn : narrow ty v = v') (hf : fits ty v' = true)
    (g1 : Z.heap.size ≤ a) (g2 : a ∈ ws ∨ hb.size ≤ a) (hI : ∀ h', Wr h h' a (Jvm.RoadKit.slotOf Z O n d) v' → I h') (pc' : Nat) (hd : decode c.code pc = .ok (.putfield index, 3)) (hp : pc + 3 = pc')
    (K : ∀ T' h' locs', Wk p l e R s m args below meth c own Z hb ws I T' h' locs' cells slots → Wr h h' a (Jvm.RoadKit.slotOf Z O n d) v' → Gl p.tables e below P T' m pc' L S) : Gl p.tables e below P T m pc L (v :: .ref a :: S) := by
  subst hp
  obtain ⟨X, hx, eT, hZ, ho, o, fr, kp, i⟩ := W
  obtain ⟨T', h', X', e', Wr', st⟩ := putFN X hx hZ ho w via eT F E Lz wi hty hn hf (g := mkF m pc L (v :: .ref a :: S)) rfl rfl hd
  exact Gl.st st (K T' h' _ ⟨X', hx, e', hZ, ho, o.wr Wr' g1, Fr.snoc X' fr g1, kp.wr Wr' g2, hI _ Wr'⟩ Wr')
theorem o_new (W : Wk p l e R s m args below meth c own Z hb ws I T h locs cells slots) {C : String} {index n : Nat} (w : (Cond.classLink own index C).before a0 Z = true) (wi : (Cond.instantiable C n).before a0 Z = true) (wz : (Cond.initialized C).before a0 Z = true) (hI : ∀ h', Ext h h' → I h')
    (pc' : Nat) (hd : decode c.code pc = .ok (.new index, 3)) (hp : pc + 3 = pc') (hc' : cells + 1 = cells') (hs' : slots + n = slots') (hc : cells' ≤ R.cells) (hs : slots' ≤ R.slots)
    (K : ∀ b T' h', Wk p l e R s m args below meth c own Z hb ws I T' h' locs cells' slots' → Ext h h' → h.size ≤ b → Z.heap.size ≤ b → hb.size ≤ b → Exa Z h' b C → (∀ {O nm d : String} {ty : FieldType}, Laid Z a0 C O nm d → parseFieldDescriptor d = some ty → Fld Z h' b O nm d (defaultValue ty)) → Gl p.tables e below P T' m pc' L (.ref b :: S)) : Gl p.tables e below P T m pc L S := by
  subst hp hc' hs'
  obtain ⟨X, hx, eT, hZ, ho, o, fr, kp, i⟩ := W
  obtain ⟨T', h', X', e', E, A, D, -, st⟩ := newO X hx hZ ho w wi wz eT (g := mkF m pc L S) rfl hd hc hs
  exact Gl.st st (K _ T' h' ⟨X', hx, e', hZ, ho, o.ext E, fr, kp.ext E, hI _ E⟩ E (Nat.le_refl _) o.2.1 kp.1 A D)
theorem o_newP (W : Wk p l e R s m args below meth c own Z hb ws I T h locs cells slots) {aty : ArrayType} (w : (Cond.arrayClass (newarray.typeOf aty)).before a0 Z = true) (hI : ∀ h', Ext h h' → I h') {n : Int32} (hn : ¬ n < 0) {cap : Nat} (hcap : n.toNatClampNeg ≤ cap) (hb8 : cap * 8 ≤ 536870912)
    (pc' : Nat) (hd : decode c.code pc = .ok (.newarray aty, 2)) (hp : pc + 2 = pc') (hc' : cells + 1 = cells') (hs' : slots + cap = slots') (hc : cells' ≤ R.cells) (hs : slots' ≤ R.slots) {vs : List Value} {dv : Value} (hdv : defaultValue (newarray.typeOf aty) = dv) (hv : vs = List.replicate vs.length dv)
    (K : ∀ b T' h' k, Wk p l e R s m args below meth c own Z hb ws I T' h' locs cells' slots' → Ext h h' → h.size ≤ b → Z.heap.size ≤ b → hb.size ≤ b → Arv Z h' b k (newarray.typeOf aty) n vs dv → Gl p.tables e below P T' m pc' L (.ref b :: S)) : Gl p.tables e below P T m pc L (.int n :: S) := by
  subst hp hc' hs' hdv
  obtain ⟨X, hx, eT, hZ, ho, o, fr, kp, i⟩ := W
  obtain ⟨T', h', k, X', e', E, A, st⟩ := newP X hx hZ w eT (g := mkF m pc L (.int n :: S)) rfl hd rfl hn hcap hb8 hc hs
  exact Gl.st st (K _ T' h' k ⟨X', hx, e', hZ, ho, o.ext E, fr, kp.ext E, hI _ E⟩ E (Nat.le_refl _) o.2.1 kp.1 ((Arv.new A hn).pad (by rw [hv]; exact pad_rep [] _ _)))
theorem o_newR (W : Wk p l e R s m args below meth c own Z hb ws I T h locs cells slots) {C : String} {index : Nat} (w1 : (Cond.classLink own index C).before a0 Z = true) (w2 : (Cond.arrayOver (.object C)).before a0 Z = true) (hI : ∀ h', Ext h h' → I h') {n : Int32} (hn : ¬ n < 0) {cap : Nat} (hcap : n.toNatClampNeg ≤ cap) (hb8 : cap * 8 ≤ 536870912)
    (pc' : Nat) (hd : decode c.code pc = .ok (.anewarray index, 3)) (hp : pc + 3 = pc') (hc' : cells + 1 = cells') (hs' : slots + cap = slots') (hc : cells' ≤ R.cells) (hs : slots' ≤ R.slots) {vs : List Value} (hv : vs = List.replicate vs.length .null)
    (K : ∀ b T' h' k, Wk p l e R s m args below meth c own Z hb ws I T' h' locs cells' slots' → Ext h h' → h.size ≤ b → Z.heap.size ≤ b → hb.size ≤ b → Arv Z h' b k (.object C) n vs .null → Ovr Z k C → Gl p.tables e below P T' m pc' L (.ref b :: S)) : Gl p.tables e below P T m pc L (.int n :: S) := by
  subst hp hc' hs'
  obtain ⟨X, hx, eT, hZ, ho, o, fr, kp, i⟩ := W
  obtain ⟨T', h', k, X', e', E, A, O, st⟩ := newR X hx hZ ho w1 w2 eT (g := mkF m pc L (.int n :: S)) rfl hd rfl hn hcap hb8 hc hs
  exact Gl.st st (K _ T' h' k ⟨X', hx, e', hZ, ho, o.ext E, fr, kp.ext E, hI _ E⟩ E (Nat.le_refl _) o.2.1 kp.1 ((Arv.new A hn).pad (by rw [hv]; exact pad_rep [] _ _)) O)
theorem o_len (W : Wk p l e R s m args below meth c own Z hb ws I T h locs cells slots) {a : Addr} {k : ClassId} {ty : FieldType} {z : Int32} {vs : List Value} {dv : Value} (V : Arv Z h a k ty z vs dv) (pc' : Nat) (hd : decode c.code pc = .ok (.arraylength, 1)) (hp : pc + 1 = pc')
    (K : Gl p.tables e below P T m pc' L (.int z :: S)) : Gl p.tables e below P T m pc L (.ref a :: S) := by
  subst hp
  obtain ⟨X, hx, eT, hZ, ho, r⟩ := W
  obtain ⟨cl, A, -, Sz, N, -⟩ := V
  refine Gl.st (X.arraylength hx (by rw [eT]; exact A.1) (State.isArrayOf_alike hZ.alike A.2.1) (g := mkF m pc L (.ref a :: S)) rfl rfl hd) ?_
  rw [len_of Sz N]; exact K
theorem own_inb {z j : Int32} {c : Cell} {i : Nat} (Sz : c.slots.size = z.toNatClampNeg) (hj : j.toNatClampNeg = i) (hj0 : ¬ j < 0) (hi : i < z.toNatClampNeg) : ¬ (j < 0 ∨ c.slots.size ≤ j.toNatClampNeg) := by
  rintro (q | q)
  · exact hj0 q
  · rw [Sz, hj] at q; omega
theorem o_stI (W : Wk p l e R s m args below meth c own Z hb ws I T h locs cells slots) {a : Addr} {k : ClassId} {z : Int32} {vs vs' : List Value} {dv : Value} (V : Arv Z h a k .int z vs dv) {j x : Int32} {i : Nat} (hj : j.toNatClampNeg = i) (hj0 : ¬ j < 0) (hi : i < z.toNatClampNeg) (hi' : i < vs.length) (hv : vs.set i (.int x) = vs')
    (g1 : Z.heap.size ≤ a) (g2 : a ∈ ws ∨ hb.size ≤ a) (hI : ∀ h', Wr h h' a i (.int x) → I h') (pc' : Nat) (hd : decode c.code pc = .ok (.iastore, 1)) (hp : pc + 1 = pc')
    (K : ∀ T' h' locs', Wk p l e R s m args below meth c own Z hb ws I T' h' locs' cells slots → Wr h h' a i (.int x) → Arv Z h' a k .int z vs' dv → Gl p.tables e below P T' m pc' L S) : Gl p.tables e below P T m pc L (.int x :: .int j :: .ref a :: S) := by
  subst hp hv
  obtain ⟨X, hx, eT, hZ, ho, o, fr, kp, i'⟩ := W
  obtain ⟨cl, A, q, Sz, N, H, G⟩ := V
  obtain ⟨T', h', X', e', Wr', st⟩ := stI X hx hZ eT A (own_inb Sz hj hj0 hi) (g := mkF m pc L (.int x :: .int j :: .ref a :: S)) rfl rfl hd
  have V' := Arv.set A q Sz N H G rfl Wr' i hj hi'
  subst hj
  exact Gl.st st (K T' h' _ ⟨X', hx, e', hZ, ho, o.wr Wr' g1, Fr.snoc X' fr g1, kp.wr Wr' g2, hI _ Wr'⟩ Wr' V')
theorem o_stR (W : Wk p l e R s m args below meth c own Z hb ws I T h locs cells slots) {a : Addr} {k : ClassId} {z : Int32} {ty : FieldType} {vs vs' : List Value} {dv : Value} (V : Arv Z h a k ty z vs dv) {j : Int32} {v : Value} {i : Nat} (hty : ty.isReference = true) (hfv : fits ty v = true) (F : Sto Z h a v) (hj : j.toNatClampNeg = i) (hj0 : ¬ j < 0) (hi : i < z.toNatClampNeg) (hi' : i < vs.length) (hv : vs.set i v = vs')
    (g1 : Z.heap.size ≤ a) (g2 : a ∈ ws ∨ hb.size ≤ a) (hI : ∀ h', Wr h h' a i v → I h') (pc' : Nat) (hd : decode c.code pc = .ok (.aastore, 1)) (hp : pc + 1 = pc')
    (K : ∀ T' h' locs', Wk p l e R s m args below meth c own Z hb ws I T' h' locs' cells slots → Wr h h' a i v → Arv Z h' a k ty z vs' dv → Gl p.tables e below P T' m pc' L S) : Gl p.tables e below P T m pc L (v :: .int j :: .ref a :: S) := by
  subst hp hv
  obtain ⟨X, hx, eT, hZ, ho, o, fr, kp, i'⟩ := W
  obtain ⟨cl, A, q, Sz, N, H, G⟩ := V
  obtain ⟨T', h', X', e', Wr', st⟩ := stR X hx hZ eT A (own_inb Sz hj hj0 hi) hty F (g := mkF m pc L (v :: .int j :: .ref a :: S)) rfl rfl hd
  have V' := Arv.set A q Sz N H G hfv Wr' i hj hi'
  subst hj
  exact Gl.st st (K T' h' _ ⟨X', hx, e', hZ, ho, o.wr Wr' g1, Fr.snoc X' fr g1, kp.wr Wr' g2, hI _ Wr'⟩ Wr' V')
theorem o_iaload (W : Wk p l e R s m args below meth c own Z hb ws I T h locs cells slots) {a : Addr} {k : ClassId} {z : Int32} {vs : List Value} {dv : Value} (V : Arv Z h a k .int z vs dv) {j x : Int32} {i : Nat} (hj : j.toNatClampNeg = i) (hj0 : ¬ j < 0) (hi : i < z.toNatClampNeg) (hv : vs.getD i dv = .int x) (pc' : Nat) (hd : decode c.code pc = .ok (.iaload, 1)) (hp : pc + 1 = pc')
    (K : Gl p.tables e below P T m pc' L (.int x :: S)) : Gl p.tables e below P T m pc L (.int j :: .ref a :: S) := by
  subst hp hj
  obtain ⟨X, hx, eT, hZ, ho, r⟩ := W
  obtain ⟨cl, A, -, Sz, N, H, -⟩ := V
  have hin := own_inb Sz rfl hj0 hi
  exact Gl.st (X.iaload hx (by rw [eT]; exact A.1) (State.isArrayOf_alike hZ.alike A.2.1) A.2.2 hin (H.at hin hv) (g := mkF m pc L (.int j :: .ref a :: S)) rfl rfl hd) K
theorem o_laload (W : Wk p l e R s m args below meth c own Z hb ws I T h locs cells slots) {a : Addr} {k : ClassId} {z : Int32} {vs : List Value} {dv : Value} (V : Arv Z h a k .long z vs dv) {j : Int32} {x : Int64} {i : Nat} (hj : j.toNatClampNeg = i) (hj0 : ¬ j < 0) (hi : i < z.toNatClampNeg) (hv : vs.getD i dv = .long x) (pc' : Nat) (hd : decode c.code pc = .ok (.laload, 1)) (hp : pc + 1 = pc')
    (K : Gl p.tables e below P T m pc' L (.long x :: S)) : Gl p.tables e below P T m pc L (.int j :: .ref a :: S) := by
  subst hp hj
  obtain ⟨X, hx, eT, hZ, ho, r⟩ := W
  obtain ⟨cl, A, -, Sz, N, H, -⟩ := V
  have hin := own_inb Sz rfl hj0 hi
  exact Gl.st (X.laload hx (by rw [eT]; exact A.1) (State.isArrayOf_alike hZ.alike A.2.1) A.2.2 hin (H.at hin hv) (g := mkF m pc L (.int j :: .ref a :: S)) rfl rfl hd) K
theorem o_aaload (W : Wk p l e R s m args below meth c own Z hb ws I T h locs cells slots) {a : Addr} {k : ClassId} {ty : FieldType} {z : Int32} {vs : List Value} {dv v : Value} (V : Arv Z h a k ty z vs dv) (hty : ty.isReference = true) {j : Int32} {i : Nat} (hj : j.toNatClampNeg = i) (hj0 : ¬ j < 0) (hi : i < z.toNatClampNeg) (hv : vs.getD i dv = v) (pc' : Nat) (hd : decode c.code pc = .ok (.aaload, 1)) (hp : pc + 1 = pc')
    (K : Gl p.tables e below P T m pc' L (v :: S)) : Gl p.tables e below P T m pc L (.int j :: .ref a :: S) := by
  subst hp hj
  obtain ⟨X, hx, eT, hZ, ho, r⟩ := W
  obtain ⟨cl, A, -, Sz, N, H, -⟩ := V
  have hin := own_inb Sz rfl hj0 hi
  exact Gl.st (X.aaload hx (by rw [eT]; exact A.1) (State.isArrayOf_alike hZ.alike A.2.1) hty A.2.2 hin (H.at hin hv) (g := mkF m pc L (.int j :: .ref a :: S)) rfl rfl hd) K
theorem o_ldcI (W : Wk p l e R s m args below meth c own Z hb ws I T h locs cells slots) {index : Nat} {v : Int32} (w : (Cond.constant own index v).before a0 Z = true) (pc' : Nat) (hd : decode c.code pc = .ok (.ldc index, 2)) (hp : pc + 2 = pc') (K : Gl p.tables e below P T m pc' L (.int v :: S)) : Gl p.tables e below P T m pc L S := by
  subst hp
  exact Gl.st (W.1.ldcInt W.2.1 W.2.2.2.2.1 (mvT W.2.2.2.1 w) (g := mkF m pc L S) rfl hd) K
theorem o_ldcWI (W : Wk p l e R s m args below meth c own Z hb ws I T h locs cells slots) {index : Nat} {v : Int32} (w : (Cond.constant own index v).before a0 Z = true) (pc' : Nat) (hd : decode c.code pc = .ok (.ldc_w index, 3)) (hp : pc + 3 = pc') (K : Gl p.tables e below P T m pc' L (.int v :: S)) : Gl p.tables e below P T m pc L S := by
  subst hp
  exact Gl.st (W.1.ldcwInt W.2.1 W.2.2.2.2.1 (mvT W.2.2.2.1 w) (g := mkF m pc L S) rfl hd) K
theorem o_ldcJ (W : Wk p l e R s m args below meth c own Z hb ws I T h locs cells slots) {index : Nat} {v : Int64} (w : (Cond.constantLong own index v).before a0 Z = true) (pc' : Nat) (hd : decode c.code pc = .ok (.ldc2_w index, 3)) (hp : pc + 3 = pc') (K : Gl p.tables e below P T m pc' L (.long v :: S)) : Gl p.tables e below P T m pc L S := by
  subst hp
  exact Gl.st (W.1.ldc2Long W.2.1 W.2.2.2.2.1 (mvT W.2.2.2.1 w) (g := mkF m pc L S) rfl hd) K
theorem o_initO (W : Wk p l e R s m args below meth c own Z hb ws I T h locs cells slots) {idx : Nat} (w1 : (Cond.methodLink own idx Lib.objectInit).before a0 Z = true) (w2 : (Cond.instanceMethod Lib.objectInit).before a0 Z = true) (w3 : (Cond.code Lib.objectInit ⟨#[0xb1]⟩ 1 none).before a0 Z = true) {a : Addr} (hml : L.size = c.maxLocals)
    (pc' : Nat) (hd : decode c.code pc = .ok (.invokespecial idx, 3)) (hp : pc + 3 = pc') (hf : 1 ≤ R.frames) (Wd : Nat) (hW : 2 * 0 + (S.map fun v => v.category).sum ≤ Wd) (hl : Wd + 12 ≤ R.locals)
    (K : ∀ T', Wk p l e R s m args below meth c own Z hb ws I T' h locs cells slots → Gl p.tables e below P T' m pc' L S) : Gl p.tables e below P T m pc L (.ref a :: S) := by
  subst hp
  obtain ⟨X, hx, eT, hZ, ho, r⟩ := W
  obtain ⟨T', X', e', st⟩ := initO X hx hZ ho w1 w2 w3 eT (g := mkF m pc L (.ref a :: S)) rfl hml rfl hd hf hW hl
  exact Gl.st st (K T' ⟨X', hx, e', hZ, ho, r⟩)
abbrev BackQ (l : Launch) (R : Room) (p : Program) (e : Env) (below : List Frame) (s : State) (args : Array Value) (y : MethodName) (len Wd : Nat) (as' : Array Value) (h : Heap) (kc ks : Nat) (Q : Option Value → Heap → List Loc → Prop) : Prop :=
  Back l R p e below s args y len Wd (fun A a => a = as' ∧ A.U.heap = h ∧ A.cells + kc ≤ R.cells ∧ A.slots + ks ≤ R.slots) (fun A _ v B => ∃ L, Q v B.U.heap L ∧ B.locs = A.locs ++ L ∧ B.cells = A.cells + kc ∧ B.slots = A.slots + ks)
theorem o_after (W : Wk p l e R s m args below meth c own Z hb ws I T h locs cells slots) {B : Pt} {v : Option Value} {kc ks : Nat} {Q : Option Value → Heap → List Loc → Prop} {wy : List Addr} (X' : Stand p l e R s m args below meth c B.U B.locs B.cells B.slots) (hpost : ∃ L, Q v B.U.heap L ∧ B.locs = locs ++ L ∧ B.cells = cells + kc ∧ B.slots = slots + ks)
    (hq : ∀ v hh L, Q v hh L → Fr Z.heap.size L ∧ Keep h hh wy) (hg : ∀ x ∈ wy, Z.heap.size ≤ x ∧ (x ∈ ws ∨ hb.size ≤ x)) (hI : ∀ h', Keep h h' wy → I h') :
    ∃ L, Q v B.U.heap L ∧ Keep h B.U.heap wy ∧ Wk p l e R s m args below meth c own Z hb ws I B.U B.U.heap (locs ++ L) (cells + kc) (slots + ks) := by
  obtain ⟨X, hx, eT, hZ, ho, o, fr, kp, i⟩ := W
  obtain ⟨⟨U, lo, kc', ks'⟩, rfl⟩ : ∃ B', B' = B := ⟨_, rfl⟩
  obtain ⟨L', q, e1, e2, e3⟩ := hpost
  have e1 : lo = locs ++ L' := e1
  have e2 : kc' = cells + kc := e2
  have e3 : ks' = slots + ks := e3
  subst e1 e2 e3
  obtain ⟨f, k⟩ := hq _ _ _ q
  exact ⟨L', q, k, X', hx, rfl, hZ, ho, o.keep k (fun x hx => (hg x hx).1), fr.app f, kp.trans k (fun x hx => (hg x hx).2), hI _ k⟩
theorem o_static (W : Wk p l e R s m args below meth c own Z hb ws I T h locs cells slots) {index : Nat} {y : MethodName} {bytes : ByteArray} {maxL : Nat} {ret : Option FieldType} (w1 : (Cond.methodLink own index y).before a0 Z = true) (w2 : (Cond.static y).before a0 Z = true) (w3 : (Cond.initialized y.cls).before a0 Z = true) (w4 : (Cond.code y bytes maxL ret).before a0 Z = true)
    (hy : y.cls ≠ "java/lang/invoke/MethodHandle" ∧ y.cls ≠ "java/lang/invoke/VarHandle") {Wd kc ks : Nat} {Q : Option Value → Heap → List Loc → Prop} {argsL : List Value} (B : BackQ l R p e below s args y 3 Wd argsL.toArray h kc ks Q) (hml : L.size = c.maxLocals)
    (hlen : ∀ sig, parseMethodDescriptor y.desc = some sig → argsL.length = sig.parameters.length) {S0 : List Value} (hS : S0 = argsL.reverse ++ S) (hW : 2 * 0 + (S.map fun v => v.category).sum ≤ Wd) (pc' : Nat) (hd : decode c.code pc = .ok (.invokestatic index, 3)) (hp : pc + 3 = pc')
    (hc' : cells + kc = cells') (hs' : slots + ks = slots') (hc : cells' ≤ R.cells) (hs : slots' ≤ R.slots) {wy : List Addr} (hq : ∀ v hh L, Q v hh L → Fr Z.heap.size L ∧ Keep h hh wy) (hg : ∀ x ∈ wy, Z.heap.size ≤ x ∧ (x ∈ ws ∨ hb.size ≤ x)) (hI : ∀ h', Keep h h' wy → I h')
    (K : ∀ v T' h' Lc, Wk p l e R s m args below meth c own Z hb ws I T' h' (locs ++ Lc) cells' slots' → Keep h h' wy → Q v h' Lc → Gl p.tables e below P T' m pc' L (v.toList ++ S)) : Gl p.tables e below P T m pc L S0 := by
  subst hp hc' hs' hS
  obtain ⟨v, vm₁, B', -, X', hpost, st⟩ := Jvm.LawKit.callS W.1 W.2.1 W.2.2.2.2.1 (mvT W.2.2.2.1 w1) (mvT W.2.2.2.1 w2) (mvT W.2.2.2.1 w3) (mvT W.2.2.2.1 w4) hy B (g := mkF m pc L (argsL.reverse ++ S)) rfl hml hlen rfl hW hd (fun _ _ => ⟨rfl, W.2.2.1, hc, hs⟩)
  obtain ⟨Lc, q, k, W'⟩ := o_after W X' hpost hq hg hI
  exact Gl.st st (K v _ _ Lc W' k q)
theorem o_special (W : Wk p l e R s m args below meth c own Z hb ws I T h locs cells slots) {index : Nat} {y : MethodName} {bytes : ByteArray} {maxL : Nat} (hy1 : y.name = "<init>") (w1 : (Cond.methodLink own index y).before a0 Z = true) (w2 : (Cond.instanceMethod y).before a0 Z = true) (w4 : (Cond.code y bytes maxL none).before a0 Z = true)
    (hy : y.cls ≠ "java/lang/invoke/MethodHandle" ∧ y.cls ≠ "java/lang/invoke/VarHandle") {Wd kc ks : Nat} {Q : Option Value → Heap → List Loc → Prop} {a : Addr} {argsL : List Value} (B : BackQ l R p e below s args y 3 Wd (.ref a :: argsL).toArray h kc ks Q) (hml : L.size = c.maxLocals)
    (hlen : ∀ sig, parseMethodDescriptor y.desc = some sig → argsL.length = sig.parameters.length) {S0 : List Value} (hS : S0 = argsL.reverse ++ .ref a :: S) (hW : 2 * 0 + (S.map fun v => v.category).sum ≤ Wd) (pc' : Nat) (hd : decode c.code pc = .ok (.invokespecial index, 3)) (hp : pc + 3 = pc')
    (hc' : cells + kc = cells') (hs' : slots + ks = slots') (hc : cells' ≤ R.cells) (hs : slots' ≤ R.slots) {wy : List Addr} (hq : ∀ v hh L, Q v hh L → Fr Z.heap.size L ∧ Keep h hh wy) (hg : ∀ x ∈ wy, Z.heap.size ≤ x ∧ (x ∈ ws ∨ hb.size ≤ x)) (hI : ∀ h', Keep h h' wy → I h')
    (K : ∀ v T' h' Lc, Wk p l e R s m args below meth c own Z hb ws I T' h' (locs ++ Lc) cells' slots' → Keep h h' wy → Q v h' Lc → Gl p.tables e below P T' m pc' L (v.toList ++ S)) : Gl p.tables e below P T m pc L S0 := by
  subst hp hc' hs' hS
  obtain ⟨v, vm₁, B', -, X', hpost, st⟩ := W.1.specialBack W.2.1 hy1 W.2.2.2.2.1 (mvT W.2.2.2.1 w1) (mvT W.2.2.2.1 w2) (mvT W.2.2.2.1 w4) hy B (g := mkF m pc L (argsL.reverse ++ .ref a :: S)) rfl hml (Steps.refl _) hlen rfl hW hd (fun _ _ => ⟨rfl, W.2.2.1, hc, hs⟩)
  obtain ⟨Lc, q, k, W'⟩ := o_after W X' hpost hq hg hI
  exact Gl.tr st (K v _ _ Lc W' k q)
theorem o_virtual (W : Wk p l e R s m args below meth c own Z hb ws I T h locs cells slots) {index : Nat} {C : String} {y z : MethodName} (w1 : (Cond.methodLink own index y).before a0 Z = true) (w2 : (Cond.declares y).before a0 Z = true) (hnf : NotFace s y) (w3 : (Cond.selects C y z).before a0 Z = true) (w4 : (Cond.instanceMethod z).before a0 Z = true)
    (hy : y.cls ≠ "java/lang/invoke/MethodHandle" ∧ y.cls ≠ "java/lang/invoke/VarHandle") {Wd kc ks : Nat} {Q : Option Value → Heap → List Loc → Prop} {a : Addr} (E : Exa Z h a C) {argsL : List Value} (B : BackQ l R p e below s args z 3 Wd (.ref a :: argsL).toArray h kc ks Q) (hml : L.size = c.maxLocals)
    (hlen : ∀ sig, parseMethodDescriptor y.desc = some sig → argsL.length = sig.parameters.length) {S0 : List Value} (hS : S0 = argsL.reverse ++ .ref a :: S) (hW : 2 * 0 + (S.map fun v => v.category).sum ≤ Wd) (pc' : Nat) (hd : decode c.code pc = .ok (.invokevirtual index, 3)) (hp : pc + 3 = pc')
    (hc' : cells + kc = cells') (hs' : slots + ks = slots') (hc : cells' ≤ R.cells) (hs : slots' ≤ R.slots) {wy : List Addr} (hq : ∀ v hh L, Q v hh L → Fr Z.heap.size L ∧ Keep h hh wy) (hg : ∀ x ∈ wy, Z.heap.size ≤ x ∧ (x ∈ ws ∨ hb.size ≤ x)) (hI : ∀ h', Keep h h' wy → I h')
    (K : ∀ v T' h' Lc, Wk p l e R s m args below meth c own Z hb ws I T' h' (locs ++ Lc) cells' slots' → Keep h h' wy → Q v h' Lc → Gl p.tables e below P T' m pc' L (v.toList ++ S)) : Gl p.tables e below P T m pc L S0 := by
  subst hp hc' hs' hS
  obtain ⟨cB, kB, q1, q2, q3⟩ := isOf W.2.2.2.1 W.2.2.1 E
  obtain ⟨v, vm₁, B', -, X', hpost, st⟩ := W.1.virtualBack W.2.1 W.2.2.2.2.1 (mvT W.2.2.2.1 w1) (mvT W.2.2.2.1 w2) hnf (mvT W.2.2.2.1 w3) (mvT W.2.2.2.1 w4) hy B q1 q3 (g := mkF m pc L (argsL.reverse ++ .ref a :: S)) rfl hml (Steps.refl _) hlen rfl hW hd (fun _ _ => ⟨rfl, W.2.2.1, hc, hs⟩)
  obtain ⟨Lc, q, k, W'⟩ := o_after W X' hpost hq hg hI
  exact Gl.tr st (K v _ _ Lc W' k q)
theorem o_nf (W : Wk p l e R s m args below meth c own Z hb ws I T h locs cells slots) {C : String} {y z : MethodName} (hyz : y = z) (w : (Cond.selects C y z).before a0 Z = true) : NotFace s y := by
  subst hyz
  exact notFace_of_selects (args := #[]) (mvT W.2.2.2.1 w)
def CtrN (l : Launch) (Z : State) (y : MethodName) (bytes : ByteArray) (maxL : Nat) (ret : Option FieldType) (xs : List Jvm.Cond) (rm : Room) (as' : Array Value) (h0 : Heap) (wy : List Addr) (Q : Option Value → Heap → Prop) : Prop :=
  MetFree l y (head1 (Jvm.Cond.code y bytes maxL ret :: xs) rm) (fun a U => a = as' ∧ Z.Warmed39 U.vm ∧ U.heap = h0) (fun _ _ _ _ _ => True) (fun _ U o U' => ∃ v L, o = .returned v ∧ (Fr Z.heap.size L ∧ Keep h0 U'.heap wy ∧ Q v U'.heap) ∧ FrameEnd U o U' L rm.cells rm.slots)
def PN (s : State) (Z : State) (below : List Frame) (h0 : Heap) (wy : List Addr) (rm : Room) (Q : Option Value → Heap → Prop) (s₂ : State) (o : Outcome) : Prop := s₂.status = .running ∧ Ended s₂ below o ∧ ∃ v L, o = .returned v ∧ (Fr Z.heap.size L ∧ Keep h0 s₂.heap wy ∧ Q v s₂.heap) ∧ FrameEnd s o s₂ L rm.cells rm.slots
theorem CtrN.intro {y : MethodName} {bytes : ByteArray} {maxL : Nat} {ret : Option FieldType} {xs : List Jvm.Cond} {rm : Room} {as' : Array Value} {h0 : Heap} {wy : List Addr} {Q : Option Value → Heap → Prop} {L0 : Array Slot} (hx : plainFor y = true) (O : Old Z Z.heap.size h0) (hef : ∀ m, entryFrame m as' maxL = mkF m 0 L0 [])
    (body : ∀ (p : Program) (e : Env) (s : State) (m : MethodId) (below : List Frame) (meth : Method) (c : Code) (T : State), c.code = bytes → c.maxLocals = maxL → meth.sig.returnType = ret → meth.locks = false → meth.name = y.name → Wk p l e rm s m as' below meth c y.cls Z h0 wy (fun _ => True) T h0 [] 0 0 → Gl p.tables e below (PN s Z below h0 wy rm Q) T m 0 L0 []) :
    CtrN l Z y bytes maxL ret xs rm as' h0 wy Q := by
  refine MetFree.of_bodySF hx hisR ?_
  intro p e s m args below meth c s₁ Bd hml hP hK
  obtain ⟨rfl, hZ, hh⟩ := hP
  have e0 : s₁.heap = h0 := by rw [← hh, Bd.state]; rfl
  obtain ⟨s2, o, g1, g2, g3, g4⟩ := body p e s m below meth c s₁ Bd.bytes hml Bd.returns Bd.notSynchronized (name_of_methodNamed Bd.named Bd.method).1 ⟨Stand.of_body Bd, Bd.exec, e0, hZ, findClass_of_methodNamed Bd.named, O, Fr.nil _, Keep.refl _ _, trivial⟩
  exact ⟨s2, o, castTop (hef m) g1, g2, g3, g4⟩
theorem CtrN.back {y : MethodName} {bytes : ByteArray} {maxL : Nat} {ret : Option FieldType} {rm : Room} {as' : Array Value} {wy : List Addr} {Q : Option Value → Heap → Prop} {len Wd : Nat} (W : Wk p l e R s m args below meth c own Z hb ws I T h locs cells slots) (C : CtrN l Z y bytes maxL ret [] rm as' h wy Q) (wc : (Cond.code y bytes maxL ret).before a0 Z = true) (wz : (Cond.initialized y.cls).before a0 Z = true)
    (hf : rm.frames + 1 ≤ R.frames) (hl : Wd + (maxL + 11) + rm.locals ≤ R.locals) : BackQ l R p e below s args y len Wd as' h rm.cells rm.slots (fun v hh L => Fr Z.heap.size L ∧ Keep h hh wy ∧ Q v hh) :=
  backOf (Q := fun v hh L => Fr Z.heap.size L ∧ Keep h hh wy ∧ Q v hh) C W.2.2.2.1 wc wz hf hl
theorem o_leaveN {y0 : List Addr} {Q : Option Value → Heap → Prop} {rm : Room} (W : Wk p l e rm s m args below meth c own Z hb ws I T h locs cells slots) (hlk : meth.locks = false) {v : Option Value} (hv : meth.sig.returnType = none → v = none) (hq : Q v h) (hc : cells ≤ rm.cells) (hs : slots ≤ rm.slots) (st : ∀ fs, (∀ (f : JFrame) (acts : List Action), f.method = m → f.locked = none → f.entered = [] → (doReturn e (T.setTop f) acts v).1 = T.setFrames fs) → Steps p.tables e below (T.setTop (mkF m pc L S)) (T.setFrames fs)) :
    Gl p.tables e below (PN s Z below hb ws rm Q) T m pc L S := by
  obtain ⟨X, hx, eT, hZ, ho, o, fr, kp, i⟩ := W
  obtain ⟨fs, hr, hrun, hended, hW, hsame⟩ := X.leave (v := v) hv
  have eh : (T.setFrames fs).heap = h := eT
  exact ⟨_, _, st fs hr, hrun, hended, v, locs, rfl, ⟨fr, by rw [eh]; exact kp, by rw [eh]; exact hq⟩, ⟨_, rfl⟩, hW, hsame.mono hc hs⟩
theorem o_retI (W : Wk p l e R s m args below meth c own Z hb ws I T h locs cells slots) (hlk : meth.locks = false) {Q : Option Value → Heap → Prop} {z : Int32} (hret : meth.sig.returnType = some .int) (hd : decode c.code pc = .ok (.ireturn, 1)) (hc : cells ≤ R.cells) (hs : slots ≤ R.slots) (hq : Q (some (.int z)) h) : Gl p.tables e below (PN s Z below hb ws R Q) T m pc L (.int z :: S) :=
  o_leaveN (y0 := []) W hlk (fun q => by rw [hret] at q; cases q) hq hc hs fun fs hr => retOut W.1 W.2.1 hret rfl (Or.inl ⟨rfl, Or.inl rfl, _, rfl⟩) hd hr
theorem o_retN (W : Wk p l e R s m args below meth c own Z hb ws I T h locs cells slots) (hlk : meth.locks = false) {Q : Option Value → Heap → Prop} {z z' : Int32} {t : FieldType} (hret : meth.sig.returnType = some t) (ht : t = .boolean ∨ t = .byte ∨ t = .char ∨ t = .short) (hz : nar t z = z') (hd : decode c.code pc = .ok (.ireturn, 1)) (hc : cells ≤ R.cells) (hs : slots ≤ R.slots) (hq : Q (some (.int z')) h) : Gl p.tables e below (PN s Z below hb ws R Q) T m pc L (.int z :: S) := by
  subst hz
  exact o_leaveN (y0 := []) W hlk (fun q => by rw [hret] at q; cases q) hq hc hs fun fs hr => retN W.1 W.2.1 hret ht hd hr
theorem o_retJ (W : Wk p l e R s m args below meth c own Z hb ws I T h locs cells slots) (hlk : meth.locks = false) {Q : Option Value → Heap → Prop} {z : Int64} (hret : meth.sig.returnType = some .long) (hd : decode c.code pc = .ok (.lreturn, 1)) (hc : cells ≤ R.cells) (hs : slots ≤ R.slots) (hq : Q (some (.long z)) h) : Gl p.tables e below (PN s Z below hb ws R Q) T m pc L (.long z :: S) :=
  o_leaveN (y0 := []) W hlk (fun q => by rw [hret] at q; cases q) hq hc hs fun fs hr => retOut W.1 W.2.1 hret rfl (Or.inr (Or.inl ⟨rfl, rfl, _, rfl⟩)) hd hr
theorem o_retA (W : Wk p l e R s m args below meth c own Z hb ws I T h locs cells slots) (hlk : meth.locks = false) {Q : Option Value → Heap → Prop} {t : FieldType} {v : Value} (hret : meth.sig.returnType = some t) (ht : t.isReference = true) (hv : v.isRef = true) (hd : decode c.code pc = .ok (.areturn, 1)) (hc : cells ≤ R.cells) (hs : slots ≤ R.slots) (hq : Q (some v) h) : Gl p.tables e below (PN s Z below hb ws R Q) T m pc L (v :: S) :=
  o_leaveN (y0 := []) W hlk (fun q => by rw [hret] at q; cases q) hq hc hs fun fs hr => retOut W.1 W.2.1 hret (by cases v <;> first | (cases hv; done) | (cases t <;> first | (cases ht; done) | rfl)) (Or.inr (Or.inr (Or.inr (Or.inr ⟨rfl, ht, hv⟩)))) hd hr
theorem o_ret0 (W : Wk p l e R s m args below meth c own Z hb ws I T h locs cells slots) (hlk : meth.locks = false) {Q : Option Value → Heap → Prop} (hret : meth.sig.returnType = none) (hd : decode c.code pc = .ok (.return_, 1)) (hc : cells ≤ R.cells) (hs : slots ≤ R.slots) (hq : Q none h) : Gl p.tables e below (PN s Z below hb ws R Q) T m pc L [] :=
  o_leaveN (y0 := []) W hlk (fun _ => rfl) hq hc hs fun fs hr => W.1.returnOut W.2.1 hret hd hr
theorem own_fI {args : Array Value} {t : Term} {a : Addr} {C n d : String} {y : Int32} (ev : t.eval args Z none [] Z = some (.ref a)) (h : (Cond.eq (.field t C n d) (.int y)).value args Z none Z [] = some true) : Fld Z Z.heap a C n d (.int y) := by
  have q := eqv_i (Term.int_eval y) h
  rw [fld_at ev] at q
  exact Fld.start q
theorem own_fJ {args : Array Value} {t : Term} {a : Addr} {C n d : String} {y : Int64} (ev : t.eval args Z none [] Z = some (.ref a)) (h : (Cond.eq (.field t C n d) (.long y)).value args Z none Z [] = some true) : Fld Z Z.heap a C n d (.long y) := by
  have q := eqv_l (long_at y) h
  rw [fld_at ev] at q
  exact Fld.start q
end OwnPre

section OwnMore
variable {p : Program} {l : Launch} {e : Env} {R : Room} {s : State} {m : MethodId} {args : Array Value} {below : List Frame} {meth : Method} {c : Code} {T : State} {locs : List Loc} {cells slots cells' slots' : Nat} {Z : State} {a0 : Array Value} {h h' hb : Heap} {ws : List Addr} {own : String} {I : Heap → Prop} {P : State → Outcome → Prop} {pc pc' : Nat} {L L' : Array Slot} {S : List Value}
theorem own_selSelf {y : MethodName} {C : String} {args : Array Value} (hy : y.cls ≠ "java/lang/invoke/MethodHandle" ∧ y.cls ≠ "java/lang/invoke/VarHandle") (hs : (Cond.selects C y y).before args s = true) (hi : (Cond.instanceMethod y).before args s = true) (hp : s.PrivateAt y) : (Cond.selects y.cls y y).before args s = true := by
  obtain ⟨c0, r, m0, h1, h2, h3, h4, k, h5, h6⟩ := Cond.selects_spec hs
  obtain ⟨mk, methM, hnamed, hmethM, -, -⟩ := Cond.instanceMethod_spec hi
  cases h3.symm.trans hnamed
  have hpr := hp _ _ hnamed hmethM
  have hc := findClass_of_methodNamed hnamed
  cases (State.methodFound?_of_named hnamed hy).symm.trans h2
  simp [Cond.before, Cond.holds, Cond.value, hc, h2, hnamed, selectMethod_private hmethM hpr, h5, h6]
theorem o_private (W : Wk p l e R s m args below meth c own Z hb ws I T h locs cells slots) {index : Nat} {y : MethodName} {bytes : ByteArray} {maxL : Nat} {ret : Option FieldType} {C K0 : String} (w1 : (Cond.methodLink own index y).before a0 Z = true) (w2 : (Cond.instanceMethod y).before a0 Z = true) (w3 : (Cond.selects C y y).before a0 Z = true) (w4 : (Cond.privateMethod y).before a0 Z = true) (w5 : (Cond.code y bytes maxL ret).before a0 Z = true)
    (hy : y.cls ≠ "java/lang/invoke/MethodHandle" ∧ y.cls ≠ "java/lang/invoke/VarHandle") {Wd kc ks : Nat} {Q : Option Value → Heap → List Loc → Prop} {a : Addr} (E : Exa Z h a K0) {argsL : List Value} (B : BackQ l R p e below s args y 3 Wd (.ref a :: argsL).toArray h kc ks Q) (hml : L.size = c.maxLocals)
    (hlen : ∀ sig, parseMethodDescriptor y.desc = some sig → argsL.length = sig.parameters.length) {S0 : List Value} (hS : S0 = argsL.reverse ++ .ref a :: S) (hW : 2 * 0 + (S.map fun v => v.category).sum ≤ Wd) (pc' : Nat) (hd : decode c.code pc = .ok (.invokevirtual index, 3)) (hp : pc + 3 = pc')
    (hc' : cells + kc = cells') (hs' : slots + ks = slots') (hc : cells' ≤ R.cells) (hs : slots' ≤ R.slots) {wy : List Addr} (hq : ∀ v hh L, Q v hh L → Fr Z.heap.size L ∧ Keep h hh wy) (hg : ∀ x ∈ wy, Z.heap.size ≤ x ∧ (x ∈ ws ∨ hb.size ≤ x)) (hI : ∀ h', Keep h h' wy → I h')
    (K : ∀ v T' h' Lc, Wk p l e R s m args below meth c own Z hb ws I T' h' (locs ++ Lc) cells' slots' → Keep h h' wy → Q v h' Lc → Gl p.tables e below P T' m pc' L (v.toList ++ S)) : Gl p.tables e below P T m pc L S0 := by
  subst hp hc' hs' hS
  obtain ⟨cl, q1, q2⟩ := E.cell
  have hpv : s.PrivateAt y := Cond.privateMethod_at (mvP W.2.2.2.1 w4 (args := #[]))
  obtain ⟨v, vm₁, B', -, X', hpost, st⟩ := W.1.privateBack W.2.1 W.2.2.2.2.1 (mvT W.2.2.2.1 w1) (mvT W.2.2.2.1 w2) (own_selSelf hy (mvT W.2.2.2.1 w3) (mvT W.2.2.2.1 w2) hpv) hpv (mvT W.2.2.2.1 w5) hy B (g := mkF m pc L (argsL.reverse ++ .ref a :: S)) rfl hml (Steps.refl _) (by rw [W.2.2.1]; exact q1) q2 hlen rfl hW hd (fun _ _ => ⟨rfl, W.2.2.1, hc, hs⟩)
  obtain ⟨Lc, q, k, W'⟩ := o_after W X' hpost hq hg hI
  exact Gl.tr st (K v _ _ Lc W' k q)
theorem o_copy (W : Wk p l e R s m args below meth c own Z hb ws I T h locs cells slots) {index : Nat} (w1 : (Cond.methodLink own index Jvm.Stand.acN).before a0 Z = true) (w2 : (Cond.native Jvm.Stand.acN).before a0 Z = true) (w3 : (Cond.static Jvm.Stand.acN).before a0 Z = true) (w4 : (Cond.initialized "java/lang/System").before a0 Z = true)
    {a b : Addr} {k k' : ClassId} {ty ty' : FieldType} {z z' sp dp nn : Int32} {vs vd us vd' : List Value} {dv dd : Value} (A : Arv Z h a k ty z vs dv) (B : Arv Z h b k' ty' z' vd dd) (hty : (ty = ty' ∧ refKind ty = false) ∨ (refKind ty = true ∧ refKind ty' = true ∧ StoL Z h b us))
    (h1 : ¬ sp < 0) (h2 : ¬ dp < 0) (h3 : ¬ nn < 0) (h4 : sp.toNatClampNeg + nn.toNatClampNeg ≤ z.toNatClampNeg) (h5 : dp.toNatClampNeg + nn.toNatClampNeg ≤ z'.toNatClampNeg)
    (hus : us = (List.range nn.toNatClampNeg).map fun i => vs.getD (sp.toNatClampNeg + i) dv) (hl : dp.toNatClampNeg + nn.toNatClampNeg ≤ vd.length) (hvd : vd.take dp.toNatClampNeg ++ us ++ vd.drop (dp.toNatClampNeg + nn.toNatClampNeg) = vd')
    (g1 : Z.heap.size ≤ b) (g2 : b ∈ ws ∨ hb.size ≤ b) (hI : ∀ h', Keep h h' [b] → I h') (hml : L.size = c.maxLocals) (pc' : Nat) (hd : decode c.code pc = .ok (.invokestatic index, 3)) (hp : pc + 3 = pc') (hf : 1 ≤ R.frames) (Wd : Nat) (hW : 2 * 0 + (S.map fun v => v.category).sum ≤ Wd) (hlo : Wd + (nativeFrameWords "java/lang/System" "arraycopy" 5 + 11) ≤ R.locals)
    (K : ∀ T' h' locs', Wk p l e R s m args below meth c own Z hb ws I T' h' locs' cells slots → Keep h h' [b] → Arv Z h' b k' ty' z' vd' dd → Gl p.tables e below P T' m pc' L S) : Gl p.tables e below P T m pc L (.int nn :: .int dp :: .ref b :: .int sp :: .ref a :: S) := by
  subst hp hvd
  obtain ⟨X, hx, eT, hZ, ho, o, fr, kp, i⟩ := W
  obtain ⟨T', h', L1, X', e', F', K', V', st⟩ := cpA X hx hZ ho w1 w2 w3 w4 eT A B hty h1 h2 h3 h4 h5 hus hl fr g1 (g := mkF m pc L (.int nn :: .int dp :: .ref b :: .int sp :: .ref a :: S)) rfl hml rfl hd hf hW hlo
  exact Gl.st st (K T' h' _ ⟨X', hx, e', hZ, ho, o.keep K' (allS g1 all0), F', kp.trans K' (allS g2 all0), hI _ K'⟩ K' V')
theorem own_stoV {a y : Addr} {k : ClassId} {ty : FieldType} {z : Int32} {vs : List Value} {dv : Value} {C : String} (V : Arv Z h a k ty z vs dv) (O : Ovr Z k C) (Iy : Ins Z h y C true) : Sto Z h a (.ref y) := by
  obtain ⟨cl, A, q, -⟩ := V
  exact Sto.ofV A q O Iy
def MirW (Z : State) (C : String) (a : Addr) : Prop := ∃ (c : ClassId) (k : Class), Z.vm.findClass C = some c ∧ Z.vm.classes[c]? = some k ∧ k.mirror = some a
end OwnMore

abbrev HW (Z : State) (a0 : Array Value) : Prop := ∀ d ∈ tables_1, d.before a0 Z = true
theorem wa {Z : State} {a0 : Array Value} (hw : HW Z a0) (i : Nat) {c : Cond} (h : tables_1[i]? = some c) : c.before a0 Z = true := hw _ (List.mem_of_getElem? h)
theorem qf {Z : State} {h : Heap} {wy : List Addr} {Q : Option Value → Heap → Prop} : ∀ (v : Option Value) (hh : Heap) (L : List Loc), (Fr Z.heap.size L ∧ Keep h hh wy ∧ Q v hh) → Fr Z.heap.size L ∧ Keep h hh wy := fun _ _ _ q => ⟨q.1, q.2.1⟩
theorem tri {A : Heap → Prop} : ∀ h : Heap, A h → True := fun _ _ => trivial
theorem m0 {x : Addr} {ws : List Addr} {P : Prop} : x ∈ x :: ws ∨ P := Or.inl List.mem_cons_self
abbrev vi (x : Int32) : Slot := .val (.int x)
abbrev vr (a : Addr) : Slot := .val (.ref a)
abbrev un : Slot := .unset
section OwnC
variable {p : Program} {l : Launch} {e : Env} {R : Room} {s : State} {m : MethodId} {args : Array Value} {below : List Frame} {meth : Method} {c : Code} {T : State} {locs : List Loc} {cells slots : Nat} {Z : State} {a0 : Array Value} {h hb : Heap} {ws : List Addr} {own : String} {I : Heap → Prop} {P : State → Outcome → Prop} {pc : Nat} {L : Array Slot}
theorem o_staticC (W : Wk p l e R s m args below meth c own Z hb ws I T h locs cells slots) {index : Nat} {y : MethodName} {bytes : ByteArray} {maxL : Nat} {ret : Option FieldType} (w1 : (Cond.methodLink own index y).before a0 Z = true) (w2 : (Cond.static y).before a0 Z = true) (w3 : (Cond.initialized y.cls).before a0 Z = true) (w4 : (Cond.code y bytes maxL ret).before a0 Z = true)
    (hy : y.cls ≠ "java/lang/invoke/MethodHandle" ∧ y.cls ≠ "java/lang/invoke/VarHandle") {rm : Room} {wy : List Addr} {Q : Option Value → Heap → Prop} {argsL : List Value} (Ct : CtrN l Z y bytes maxL ret [] rm argsL.toArray h wy Q) (Wd : Nat) (cells' slots' : Nat) (hz : rm.frames + 1 ≤ R.frames ∧ Wd + (maxL + 11) + rm.locals ≤ R.locals ∧ cells' ≤ R.cells ∧ slots' ≤ R.slots) (hml : L.size = c.maxLocals)
    (hlen : ∀ sig, parseMethodDescriptor y.desc = some sig → argsL.length = sig.parameters.length) {S0 : List Value} (S : List Value) (hS : S0 = argsL.reverse ++ S) (hW : 2 * 0 + (S.map fun v => v.category).sum = Wd) (pc' : Nat) (hd : decode c.code pc = .ok (.invokestatic index, 3)) (hp : pc + 3 = pc')
    (hc' : cells + rm.cells = cells') (hs' : slots + rm.slots = slots') (hg : ∀ x ∈ wy, Z.heap.size ≤ x ∧ (x ∈ ws ∨ hb.size ≤ x)) (hI : ∀ h', Keep h h' wy → I h')
    (K : ∀ v T' h' Lc, Wk p l e R s m args below meth c own Z hb ws I T' h' (locs ++ Lc) cells' slots' → Keep h h' wy → (Fr Z.heap.size Lc ∧ Keep h h' wy ∧ Q v h') → Gl p.tables e below P T' m pc' L (v.toList ++ S)) : Gl p.tables e below P T m pc L S0 := o_static W w1 w2 w3 w4 hy (CtrN.back (Wd := Wd) W Ct w4 w3 hz.1 hz.2.1) hml hlen hS (Nat.le_of_eq hW) pc' hd hp hc' hs' hz.2.2.1 hz.2.2.2 qf hg hI K
theorem o_specialC (W : Wk p l e R s m args below meth c own Z hb ws I T h locs cells slots) {index : Nat} {y : MethodName} {bytes : ByteArray} {maxL : Nat} (hy1 : y.name = "<init>") (w1 : (Cond.methodLink own index y).before a0 Z = true) (w2 : (Cond.instanceMethod y).before a0 Z = true) (w4 : (Cond.code y bytes maxL none).before a0 Z = true)
    (hy : y.cls ≠ "java/lang/invoke/MethodHandle" ∧ y.cls ≠ "java/lang/invoke/VarHandle") {rm : Room} {wy : List Addr} {Q : Option Value → Heap → Prop} {a : Addr} {argsL : List Value} (wz : (Cond.initialized y.cls).before a0 Z = true) (Ct : CtrN l Z y bytes maxL none [] rm (.ref a :: argsL).toArray h wy Q) (Wd : Nat) (cells' slots' : Nat) (hz : rm.frames + 1 ≤ R.frames ∧ Wd + (maxL + 11) + rm.locals ≤ R.locals ∧ cells' ≤ R.cells ∧ slots' ≤ R.slots) (hml : L.size = c.maxLocals)
    (hlen : ∀ sig, parseMethodDescriptor y.desc = some sig → argsL.length = sig.parameters.length) {S0 : List Value} (S : List Value) (hS : S0 = argsL.reverse ++ .ref a :: S) (hW : 2 * 0 + (S.map fun v => v.category).sum = Wd) (pc' : Nat) (hd : decode c.code pc = .ok (.invokespecial index, 3)) (hp : pc + 3 = pc')
    (hc' : cells + rm.cells = cells') (hs' : slots + rm.slots = slots') (hg : ∀ x ∈ wy, Z.heap.size ≤ x ∧ (x ∈ ws ∨ hb.size ≤ x)) (hI : ∀ h', Keep h h' wy → I h')
    (K : ∀ v T' h' Lc, Wk p l e R s m args below meth c own Z hb ws I T' h' (locs ++ Lc) cells' slots' → Keep h h' wy → (Fr Z.heap.size Lc ∧ Keep h h' wy ∧ Q v h') → Gl p.tables e below P T' m pc' L (v.toList ++ S)) : Gl p.tables e below P T m pc L S0 := o_special W hy1 w1 w2 w4 hy (CtrN.back (Wd := Wd) W Ct w4 wz hz.1 hz.2.1) hml hlen hS (Nat.le_of_eq hW) pc' hd hp hc' hs' hz.2.2.1 hz.2.2.2 qf hg hI K
theorem o_virtualC (W : Wk p l e R s m args below meth c own Z hb ws I T h locs cells slots) {index : Nat} {C : String} {y z : MethodName} (w1 : (Cond.methodLink own index y).before a0 Z = true) (w2 : (Cond.declares y).before a0 Z = true) (hnf : NotFace s y) (w3 : (Cond.selects C y z).before a0 Z = true) (w4 : (Cond.instanceMethod z).before a0 Z = true)
    (hy : y.cls ≠ "java/lang/invoke/MethodHandle" ∧ y.cls ≠ "java/lang/invoke/VarHandle") {rm : Room} {wy : List Addr} {Q : Option Value → Heap → Prop} {a : Addr} (E : Exa Z h a C) {argsL : List Value} {bytes : ByteArray} {maxL : Nat} {ret : Option FieldType} (wc : (Cond.code z bytes maxL ret).before a0 Z = true) (wz : (Cond.initialized z.cls).before a0 Z = true) (Ct : CtrN l Z z bytes maxL ret [] rm (.ref a :: argsL).toArray h wy Q) (Wd : Nat) (cells' slots' : Nat) (hz : rm.frames + 1 ≤ R.frames ∧ Wd + (maxL + 11) + rm.locals ≤ R.locals ∧ cells' ≤ R.cells ∧ slots' ≤ R.slots) (hml : L.size = c.maxLocals)
    (hlen : ∀ sig, parseMethodDescriptor y.desc = some sig → argsL.length = sig.parameters.length) {S0 : List Value} (S : List Value) (hS : S0 = argsL.reverse ++ .ref a :: S) (hW : 2 * 0 + (S.map fun v => v.category).sum = Wd) (pc' : Nat) (hd : decode c.code pc = .ok (.invokevirtual index, 3)) (hp : pc + 3 = pc')
    (hc' : cells + rm.cells = cells') (hs' : slots + rm.slots = slots') (hg : ∀ x ∈ wy, Z.heap.size ≤ x ∧ (x ∈ ws ∨ hb.size ≤ x)) (hI : ∀ h', Keep h h' wy → I h')
    (K : ∀ v T' h' Lc, Wk p l e R s m args below meth c own Z hb ws I T' h' (locs ++ Lc) cells' slots' → Keep h h' wy → (Fr Z.heap.size Lc ∧ Keep h h' wy ∧ Q v h') → Gl p.tables e below P T' m pc' L (v.toList ++ S)) : Gl p.tables e below P T m pc L S0 := o_virtual W w1 w2 hnf w3 w4 hy E (CtrN.back (Wd := Wd) W Ct wc wz hz.1 hz.2.1) hml hlen hS (Nat.le_of_eq hW) pc' hd hp hc' hs' hz.2.2.1 hz.2.2.2 qf hg hI K
theorem o_privateC (W : Wk p l e R s m args below meth c own Z hb ws I T h locs cells slots) {index : Nat} {y : MethodName} {bytes : ByteArray} {maxL : Nat} {ret : Option FieldType} {C K0 : String} (w1 : (Cond.methodLink own index y).before a0 Z = true) (w2 : (Cond.instanceMethod y).before a0 Z = true) (w3 : (Cond.selects C y y).before a0 Z = true) (w4 : (Cond.privateMethod y).before a0 Z = true) (w5 : (Cond.code y bytes maxL ret).before a0 Z = true)
    (hy : y.cls ≠ "java/lang/invoke/MethodHandle" ∧ y.cls ≠ "java/lang/invoke/VarHandle") {rm : Room} {wy : List Addr} {Q : Option Value → Heap → Prop} {a : Addr} (E : Exa Z h a K0) {argsL : List Value} (wz : (Cond.initialized y.cls).before a0 Z = true) (Ct : CtrN l Z y bytes maxL ret [] rm (.ref a :: argsL).toArray h wy Q) (Wd : Nat) (cells' slots' : Nat) (hz : rm.frames + 1 ≤ R.frames ∧ Wd + (maxL + 11) + rm.locals ≤ R.locals ∧ cells' ≤ R.cells ∧ slots' ≤ R.slots) (hml : L.size = c.maxLocals)
    (hlen : ∀ sig, parseMethodDescriptor y.desc = some sig → argsL.length = sig.parameters.length) {S0 : List Value} (S : List Value) (hS : S0 = argsL.reverse ++ .ref a :: S) (hW : 2 * 0 + (S.map fun v => v.category).sum = Wd) (pc' : Nat) (hd : decode c.code pc = .ok (.invokevirtual index, 3)) (hp : pc + 3 = pc')
    (hc' : cells + rm.cells = cells') (hs' : slots + rm.slots = slots') (hg : ∀ x ∈ wy, Z.heap.size ≤ x ∧ (x ∈ ws ∨ hb.size ≤ x)) (hI : ∀ h', Keep h h' wy → I h')
    (K : ∀ v T' h' Lc, Wk p l e R s m args below meth c own Z hb ws I T' h' (locs ++ Lc) cells' slots' → Keep h h' wy → (Fr Z.heap.size Lc ∧ Keep h h' wy ∧ Q v h') → Gl p.tables e below P T' m pc' L (v.toList ++ S)) : Gl p.tables e below P T m pc L S0 := o_private W w1 w2 w3 w4 w5 hy E (CtrN.back (Wd := Wd) W Ct w5 wz hz.1 hz.2.1) hml hlen hS (Nat.le_of_eq hW) pc' hd hp hc' hs' hz.2.2.1 hz.2.2.2 qf hg hI K
end OwnC
abbrev iZ : Value := .int 0
abbrev s0 : String := "java/math/BigDecimal"
abbrev s1 : String := "java/math/BigInteger"
abbrev s2 : String := "java/time/Duration"
abbrev s3 : String := "java/math/MutableBigInteger"
abbrev s4 : String := "intCompact"
abbrev s5 : String := "Ljava/math/BigInteger;"
abbrev s6 : String := "com/example/harbinger/harbinger/Backoff"
abbrev s7 : String := "[Ljava/math/BigDecimal;"
abbrev s8 : String := "bitLengthPlusOne"
abbrev s9 : String := "Ljava/time/Duration;"
abbrev s10 : String := "precision"
abbrev s11 : String := "failures"
abbrev s12 : String := "ZERO_THROUGH_TEN"
abbrev s13 : String := "LONG_TEN_POWERS_TABLE"
abbrev s14 : String := "THRESHOLDS_TABLE"
abbrev s15 : String := "BI_NANOS_PER_SECOND"
abbrev s16 : String := "ZERO_SCALED_BY"
abbrev mn0 : MethodName := ⟨"com/example/harbinger/harbinger/Backoff", "<init>", "()V"⟩
abbrev mn1 : MethodName := ⟨"java/lang/Math", "min", "(II)I"⟩
abbrev mn2 : MethodName := ⟨"java/time/Duration", "multipliedBy", "(J)Ljava/time/Duration;"⟩
abbrev mn3 : MethodName := ⟨"java/lang/Long", "compare", "(JJ)I"⟩
abbrev mn4 : MethodName := ⟨"java/time/Duration", "compareTo", "(Ljava/time/Duration;)I"⟩
abbrev mn5 : MethodName := ⟨"com/example/harbinger/harbinger/Backoff", "after", "(I)Ljava/time/Duration;"⟩
abbrev mn6 : MethodName := ⟨"com/example/harbinger/harbinger/Backoff", "failed", "()Ljava/time/Duration;"⟩
abbrev mn7 : MethodName := ⟨"java/time/Duration", "getSeconds", "()J"⟩
abbrev mn8 : MethodName := ⟨"com/example/harbinger/harbinger/BackoffFailedPinLaw", "expectedSeconds", "(I)J"⟩
abbrev mn9 : MethodName := ⟨"java/time/Duration", "getNano", "()I"⟩
abbrev mn10 : MethodName := ⟨"com/example/harbinger/harbinger/BackoffFailedPinLaw", "matches", "(Ljava/time/Duration;I)Z"⟩
abbrev mn11 : MethodName := ⟨"java/math/BigDecimal", "valueOf", "(J)Ljava/math/BigDecimal;"⟩
abbrev mn12 : MethodName := ⟨"java/math/BigDecimal", "zeroValueOf", "(I)Ljava/math/BigDecimal;"⟩
abbrev mn13 : MethodName := ⟨"java/math/BigDecimal", "valueOf", "(JI)Ljava/math/BigDecimal;"⟩
abbrev mn14 : MethodName := ⟨"java/math/BigDecimal", "checkScale", "(JJ)I"⟩
abbrev mn15 : MethodName := ⟨"java/math/BigDecimal", "longMultiplyPowerTen", "(JI)J"⟩
abbrev mn16 : MethodName := ⟨"java/math/BigDecimal", "add", "(JJ)J"⟩
abbrev mn17 : MethodName := ⟨"java/lang/Number", "<init>", "()V"⟩
abbrev mn18 : MethodName := ⟨"java/math/BigDecimal", "<init>", "(Ljava/math/BigInteger;JII)V"⟩
abbrev mn19 : MethodName := ⟨"java/math/BigDecimal", "add", "(JJI)Ljava/math/BigDecimal;"⟩
abbrev mn20 : MethodName := ⟨"java/math/BigDecimal", "add", "(JIJI)Ljava/math/BigDecimal;"⟩
abbrev mn21 : MethodName := ⟨"java/math/BigDecimal", "add", "(Ljava/math/BigDecimal;)Ljava/math/BigDecimal;"⟩
abbrev mn22 : MethodName := ⟨"java/time/Duration", "toBigDecimalSeconds", "()Ljava/math/BigDecimal;"⟩
abbrev mn23 : MethodName := ⟨"java/math/BigDecimal", "checkScale", "(J)I"⟩
abbrev mn24 : MethodName := ⟨"java/lang/Math", "abs", "(J)J"⟩
abbrev mn25 : MethodName := ⟨"java/math/BigDecimal", "multiply", "(JJ)J"⟩
abbrev mn26 : MethodName := ⟨"java/math/BigDecimal", "multiply", "(JJI)Ljava/math/BigDecimal;"⟩
abbrev mn27 : MethodName := ⟨"java/math/BigDecimal", "multiply", "(Ljava/math/BigDecimal;)Ljava/math/BigDecimal;"⟩
abbrev mn28 : MethodName := ⟨"java/math/BigDecimal", "movePointRight", "(I)Ljava/math/BigDecimal;"⟩
abbrev mn29 : MethodName := ⟨"java/math/BigDecimal", "setScale", "(II)Ljava/math/BigDecimal;"⟩
abbrev mn30 : MethodName := ⟨"java/math/BigInteger", "<init>", "(J)V"⟩
abbrev mn31 : MethodName := ⟨"java/math/BigInteger", "valueOf", "(J)Ljava/math/BigInteger;"⟩
abbrev mn32 : MethodName := ⟨"java/math/BigDecimal", "inflated", "()Ljava/math/BigInteger;"⟩
abbrev mn33 : MethodName := ⟨"java/math/BigDecimal", "toBigIntegerExact", "()Ljava/math/BigInteger;"⟩
abbrev mn34 : MethodName := ⟨"java/math/MutableBigInteger", "<init>", "()V"⟩
abbrev mn35 : MethodName := ⟨"java/math/MutableBigInteger", "<init>", "([I)V"⟩
abbrev mn36 : MethodName := ⟨"java/math/MutableBigInteger", "compare", "(Ljava/math/MutableBigInteger;)I"⟩
abbrev mn37 : MethodName := ⟨"java/math/MutableBigInteger", "clear", "()V"⟩
abbrev mn38 : MethodName := ⟨"java/math/MutableBigInteger", "divideOneWord", "(ILjava/math/MutableBigInteger;)I"⟩
abbrev mn39 : MethodName := ⟨"java/math/MutableBigInteger", "divideKnuth", "(Ljava/math/MutableBigInteger;Ljava/math/MutableBigInteger;Z)Ljava/math/MutableBigInteger;"⟩
abbrev mn40 : MethodName := ⟨"java/math/MutableBigInteger", "divideKnuth", "(Ljava/math/MutableBigInteger;Ljava/math/MutableBigInteger;)Ljava/math/MutableBigInteger;"⟩
abbrev mn41 : MethodName := ⟨"java/math/MutableBigInteger", "getMagnitudeArray", "()[I"⟩
abbrev mn42 : MethodName := ⟨"java/math/BigInteger", "<init>", "([II)V"⟩
abbrev mn43 : MethodName := ⟨"java/math/MutableBigInteger", "toBigInteger", "(I)Ljava/math/BigInteger;"⟩
abbrev mn44 : MethodName := ⟨"java/math/BigInteger", "divideAndRemainderKnuth", "(Ljava/math/BigInteger;)[Ljava/math/BigInteger;"⟩
abbrev mn45 : MethodName := ⟨"java/math/BigInteger", "divideAndRemainder", "(Ljava/math/BigInteger;)[Ljava/math/BigInteger;"⟩
abbrev mn46 : MethodName := ⟨"java/lang/Integer", "numberOfLeadingZeros", "(I)I"⟩
abbrev mn47 : MethodName := ⟨"java/math/BigInteger", "bitLengthForInt", "(I)I"⟩
abbrev mn48 : MethodName := ⟨"java/math/BigInteger", "bitLength", "()I"⟩
abbrev mn49 : MethodName := ⟨"java/math/BigInteger", "signInt", "()I"⟩
abbrev mn50 : MethodName := ⟨"java/math/BigInteger", "getInt", "(I)I"⟩
abbrev mn51 : MethodName := ⟨"java/math/BigInteger", "longValue", "()J"⟩
abbrev mn52 : MethodName := ⟨"java/math/BigInteger", "intValue", "()I"⟩
abbrev mn53 : MethodName := ⟨"java/lang/Math", "floorDiv", "(JJ)J"⟩
abbrev mn54 : MethodName := ⟨"java/lang/Math", "addExact", "(JJ)J"⟩
abbrev mn55 : MethodName := ⟨"java/lang/Math", "floorMod", "(JJ)J"⟩
abbrev mn56 : MethodName := ⟨"java/time/Duration", "<init>", "(JI)V"⟩
abbrev mn57 : MethodName := ⟨"java/time/Duration", "create", "(JI)Ljava/time/Duration;"⟩
abbrev mn58 : MethodName := ⟨"java/time/Duration", "ofSeconds", "(JJ)Ljava/time/Duration;"⟩
abbrev mn59 : MethodName := ⟨"java/time/Duration", "create", "(Ljava/math/BigDecimal;)Ljava/time/Duration;"⟩
abbrev mn60 : MethodName := ⟨"java/math/MutableBigInteger", "normalize", "()V"⟩
abbrev mn61 : MethodName := ⟨"java/util/Arrays", "checkLength", "(II)V"⟩
abbrev mn62 : MethodName := ⟨"java/util/Arrays", "copyOfRangeInt", "([III)[I"⟩
abbrev mn63 : MethodName := ⟨"java/util/Arrays", "copyOfRange", "([III)[I"⟩
abbrev mn64 : MethodName := ⟨"java/util/Arrays", "fill", "([II)V"⟩
abbrev mn65 : MethodName := ⟨"com/example/harbinger/harbinger/Backoff", "succeeded", "()V"⟩
abbrev dc (b : ByteArray) (pc : Nat) (i : Instr) (n : Nat) : Prop := decode b pc = .ok (i, n)
abbrev c0_ : ByteArray := prog_3_method_1_code
abbrev c1_ : ByteArray := prog_3_method_3_code
abbrev c2_ : ByteArray := prog_3_method_2_code
abbrev c3_ : ByteArray := jdk_29_method_69_code
abbrev c4_ : ByteArray := jdk_2316_method_44_code
abbrev c5_ : ByteArray := jdk_2316_method_66_code
abbrev c6_ : ByteArray := jdk_35_method_42_code
abbrev c7_ : ByteArray := method_3_code
abbrev c8_ : ByteArray := jdk_2316_method_23_code
abbrev c9_ : ByteArray := method_2_code
abbrev c10_ : ByteArray := jdk_2316_method_24_code
abbrev c11_ : ByteArray := jdk_2316_method_47_code
abbrev c12_ : ByteArray := jdk_17_method_21_code
abbrev c13_ : ByteArray := jdk_17_method_20_code
abbrev c14_ : ByteArray := jdk_17_method_24_code
abbrev c15_ : ByteArray := jdk_17_method_26_code
abbrev c16_ : ByteArray := jdk_17_method_134_code
abbrev c17_ : ByteArray := jdk_17_method_113_code
abbrev c18_ : ByteArray := jdk_17_method_97_code
abbrev c19_ : ByteArray := jdk_17_method_133_code
abbrev c20_ : ByteArray := jdk_17_method_132_code
abbrev c21_ : ByteArray := jdk_17_method_1_code
abbrev c22_ : ByteArray := jdk_18_method_1_code
abbrev c23_ : ByteArray := jdk_17_method_31_code
abbrev c24_ : ByteArray := jdk_17_method_106_code
abbrev c25_ : ByteArray := jdk_17_method_157_code
abbrev c26_ : ByteArray := jdk_17_method_156_code
abbrev c27_ : ByteArray := jdk_29_method_61_code
abbrev c28_ : ByteArray := jdk_2316_method_48_code
abbrev c29_ : ByteArray := jdk_17_method_67_code
abbrev c30_ : ByteArray := jdk_17_method_81_code
abbrev c31_ : ByteArray := jdk_17_method_64_code
abbrev c32_ : ByteArray := jdk_17_method_99_code
abbrev c33_ : ByteArray := jdk_2097_method_29_code
abbrev c34_ : ByteArray := jdk_2097_method_30_code
abbrev c35_ : ByteArray := jdk_2097_method_63_code
abbrev c36_ : ByteArray := jdk_2097_method_64_code
abbrev c37_ : ByteArray := jdk_2101_method_1_code
abbrev c38_ : ByteArray := jdk_2101_method_3_code
abbrev c39_ : ByteArray := jdk_2101_method_56_code
abbrev c40_ : ByteArray := jdk_2101_method_57_code
abbrev c41_ : ByteArray := jdk_2101_method_15_code
abbrev c42_ : ByteArray := jdk_2101_method_13_code
abbrev c43_ : ByteArray := jdk_2101_method_53_code
abbrev c44_ : ByteArray := jdk_2101_method_9_code
abbrev c45_ : ByteArray := jdk_2101_method_7_code
abbrev c46_ : ByteArray := jdk_2097_method_25_code
abbrev c47_ : ByteArray := jdk_2097_method_118_code
abbrev c48_ : ByteArray := jdk_2097_method_74_code
abbrev c49_ : ByteArray := jdk_33_method_47_code
abbrev c50_ : ByteArray := jdk_2097_method_136_code
abbrev c51_ : ByteArray := jdk_2097_method_148_code
abbrev c52_ : ByteArray := jdk_2097_method_147_code
abbrev c53_ : ByteArray := jdk_2097_method_135_code
abbrev c54_ : ByteArray := jdk_2316_method_5_code
abbrev c55_ : ByteArray := jdk_29_method_49_code
abbrev c56_ : ByteArray := jdk_29_method_25_code
abbrev c57_ : ByteArray := jdk_29_method_52_code
abbrev c58_ : ByteArray := jdk_2316_method_16_code
abbrev c59_ : ByteArray := jdk_2316_method_17_code
abbrev c60_ : ByteArray := jdk_2101_method_21_code
abbrev c61_ : ByteArray := jdk_65_method_136_code
abbrev c62_ : ByteArray := jdk_65_method_137_code
abbrev c63_ : ByteArray := jdk_65_method_131_code
abbrev c64_ : ByteArray := jdk_65_method_103_code
abbrev c65_ : ByteArray := prog_3_method_4_code
set_option maxRecDepth 65536
set_option maxHeartbeats 40000000

theorem own_eqR {Z : State} {args : Array Value} {a b : Term} {g : Addr} (h : (Jvm.Cond.eq a b).value args Z none Z [] = some true) (hb : b.eval args Z none [] Z = some (.ref g)) : a.eval args Z none [] Z = some (.ref g) := by
  obtain ⟨x, y, e1, e2, k1, k2⟩ := cmp_v (Or.inl h)
  cases hb.symm.trans e2
  have hx : x.isRef = true := k2.2
  have := gotT (eq_R e1 hb hx rfl) h
  rw [e1, this]
theorem own_len {Z : State} {args : Array Value} {t : Term} {a : Addr} {cl : Cell} {ty : FieldType} {n : Int32} (ev : t.eval args Z none [] Z = some (.ref a)) (A : Arr Z Z.heap a cl ty) (h : (Jvm.Cond.eq (.length t) (.int n)).value args Z none Z [] = some true) : cl.slots.size < 2 ^ 31 ∧ cl.slots.size.toInt32 = n := by
  have q := eqv_i (Term.int_eval n) h
  have f := A.fin (Vm.Alike.refl _)
  by_cases hs : cl.slots.size < 2 ^ 31
  · rw [len_f ev f hs] at q
    exact ⟨hs, by simpa using q⟩
  · simp [Term.eval, ev, f, hs] at q
theorem own_elI {Z : State} {args : Array Value} {t : Term} {a : Addr} {cl : Cell} {ty : FieldType} {i v : Int32} {k : Nat} (ev : t.eval args Z none [] Z = some (.ref a)) (A : Arr Z Z.heap a cl ty) (h : (Jvm.Cond.eq (.elem t (.int i)) (.int v)).value args Z none Z [] = some true) (hk : i.toNatClampNeg = k) : cl.slots[k]? = some (.int v) := by
  subst hk
  exact (elem_in (eqv_i (Term.int_eval v) h) ev (Term.int_eval i) A.1).2
theorem own_elJ {Z : State} {args : Array Value} {t : Term} {a : Addr} {cl : Cell} {ty : FieldType} {i : Int32} {v : Int64} {k : Nat} (ev : t.eval args Z none [] Z = some (.ref a)) (A : Arr Z Z.heap a cl ty) (h : (Jvm.Cond.eq (.elem t (.int i)) (.long v)).value args Z none Z [] = some true) (hk : i.toNatClampNeg = k) : cl.slots[k]? = some (.long v) := by
  subst hk
  exact (elem_in (eqv_l (long_at v) h) ev (Term.int_eval i) A.1).2
theorem own_elR {Z : State} {args : Array Value} {t : Term} {a : Addr} {cl : Cell} {ty : FieldType} {i : Int32} {v : Value} {k : Nat} (ev : t.eval args Z none [] Z = some (.ref a)) (A : Arr Z Z.heap a cl ty) (h : (Term.elem t (.int i)).eval args Z none [] Z = some v) (hk : i.toNatClampNeg = k) : cl.slots[k]? = some v := by
  subst hk
  exact (elem_in h ev (Term.int_eval i) A.1).2

theorem w0 {Z a0} (hw : HW Z a0) : ((Cond.classLink "com/example/harbinger/harbinger/BackoffFailedPinLaw" 31 s6)).before a0 Z = true := wa hw 0 rfl
theorem w1 {Z a0} (hw : HW Z a0) : ((Cond.instantiable s6 1)).before a0 Z = true := wa hw 1 rfl
theorem w2 {Z a0} (hw : HW Z a0) : ((Cond.initialized s6)).before a0 Z = true := wa hw 2 rfl
theorem w3 {Z a0} (hw : HW Z a0) : ((Cond.methodLink "com/example/harbinger/harbinger/BackoffFailedPinLaw" 33 mn0)).before a0 Z = true := wa hw 3 rfl
theorem w4 {Z a0} (hw : HW Z a0) : ((Cond.instanceMethod mn0)).before a0 Z = true := wa hw 4 rfl
theorem w5 {Z a0} (hw : HW Z a0) : ((Cond.code mn0 prog_3_method_1_code 1 (Option.none : Option Jvm.ClassFile.FieldType))).before a0 Z = true := wa hw 5 rfl
theorem w6 {Z a0} (hw : HW Z a0) : ((Cond.methodLink s6 1 ⟨"java/lang/Object", "<init>", "()V"⟩)).before a0 Z = true := wa hw 6 rfl
theorem w7 {Z a0} (hw : HW Z a0) : ((Cond.instanceMethod ⟨"java/lang/Object", "<init>", "()V"⟩)).before a0 Z = true := wa hw 7 rfl
theorem w8 {Z a0} (hw : HW Z a0) : ((Cond.code ⟨"java/lang/Object", "<init>", "()V"⟩ object_method_1_code 1 (Option.none : Option Jvm.ClassFile.FieldType))).before a0 Z = true := wa hw 8 rfl
theorem w9 {Z a0} (hw : HW Z a0) : ((Cond.methodLink "com/example/harbinger/harbinger/BackoffFailedPinLaw" 34 mn6)).before a0 Z = true := wa hw 9 rfl
theorem w10 {Z a0} (hw : HW Z a0) : ((Cond.declares mn6)).before a0 Z = true := wa hw 10 rfl
theorem w11 {Z a0} (hw : HW Z a0) : ((Cond.instanceMethod mn6)).before a0 Z = true := wa hw 11 rfl
theorem w12 {Z a0} (hw : HW Z a0) : ((Cond.selects s6 mn6 mn6)).before a0 Z = true := wa hw 12 rfl
theorem w13 {Z a0} (hw : HW Z a0) : ((Cond.code mn6 prog_3_method_3_code 1 (Option.some (FieldType.object s2)))).before a0 Z = true := wa hw 13 rfl
theorem w14 {Z a0} (hw : HW Z a0) : ((Cond.fieldLink s6 41 s6 s11 "I")).before a0 Z = true := wa hw 14 rfl
theorem w15 {Z a0} (hw : HW Z a0) : ((Cond.lays s6 s6 s11 "I")).before a0 Z = true := wa hw 15 rfl
theorem w16 {Z a0} (hw : HW Z a0) : ((Cond.methodLink s6 45 mn5)).before a0 Z = true := wa hw 16 rfl
theorem w17 {Z a0} (hw : HW Z a0) : ((Cond.static mn5)).before a0 Z = true := wa hw 17 rfl
theorem w18 {Z a0} (hw : HW Z a0) : ((Cond.code mn5 prog_3_method_2_code 2 (Option.some (FieldType.object s2)))).before a0 Z = true := wa hw 18 rfl
theorem w19 {Z a0} (hw : HW Z a0) : ((Cond.fieldLink s6 16 s6 "FIRST" s9)).before a0 Z = true := wa hw 19 rfl
theorem w20 {Z a0} (hw : HW Z a0) : ((Cond.laysStatic s6 "FIRST" s9)).before a0 Z = true := wa hw 20 rfl
theorem w21 {Z a0} (hw : HW Z a0) : ((Cond.methodLink s6 22 mn1)).before a0 Z = true := wa hw 21 rfl
theorem w22 {Z a0} (hw : HW Z a0) : ((Cond.static mn1)).before a0 Z = true := wa hw 22 rfl
theorem w23 {Z a0} (hw : HW Z a0) : ((Cond.initialized "java/lang/Math")).before a0 Z = true := wa hw 23 rfl
theorem w24 {Z a0} (hw : HW Z a0) : ((Cond.code mn1 jdk_29_method_69_code 2 (Option.some FieldType.int))).before a0 Z = true := wa hw 24 rfl
theorem w25 {Z a0} (hw : HW Z a0) : ((Cond.methodLink s6 28 mn2)).before a0 Z = true := wa hw 25 rfl
theorem w26 {Z a0} (hw : HW Z a0) : ((Cond.declares mn2)).before a0 Z = true := wa hw 26 rfl
theorem w27 {Z a0} (hw : HW Z a0) : ((Cond.instanceMethod mn2)).before a0 Z = true := wa hw 27 rfl
theorem w28 {Z a0} (hw : HW Z a0) : ((Cond.selects s2 mn2 mn2)).before a0 Z = true := wa hw 28 rfl
theorem w29 {Z a0} (hw : HW Z a0) : ((Cond.initialized s2)).before a0 Z = true := wa hw 29 rfl
theorem w30 {Z a0} (hw : HW Z a0) : ((Cond.code mn2 jdk_2316_method_44_code 3 (Option.some (FieldType.object s2)))).before a0 Z = true := wa hw 30 rfl
theorem w31 {Z a0} (hw : HW Z a0) : ((Cond.fieldLink s6 34 s6 "MAX" s9)).before a0 Z = true := wa hw 31 rfl
theorem w32 {Z a0} (hw : HW Z a0) : ((Cond.laysStatic s6 "MAX" s9)).before a0 Z = true := wa hw 32 rfl
theorem w33 {Z a0} (hw : HW Z a0) : ((Cond.methodLink s6 37 mn4)).before a0 Z = true := wa hw 33 rfl
theorem w34 {Z a0} (hw : HW Z a0) : ((Cond.declares mn4)).before a0 Z = true := wa hw 34 rfl
theorem w35 {Z a0} (hw : HW Z a0) : ((Cond.instanceMethod mn4)).before a0 Z = true := wa hw 35 rfl
theorem w36 {Z a0} (hw : HW Z a0) : ((Cond.selects s2 mn4 mn4)).before a0 Z = true := wa hw 36 rfl
theorem w37 {Z a0} (hw : HW Z a0) : ((Cond.code mn4 jdk_2316_method_66_code 3 (Option.some FieldType.int))).before a0 Z = true := wa hw 37 rfl
theorem w38 {Z a0} (hw : HW Z a0) : ((Cond.fieldLink s2 221 s2 "seconds" "J")).before a0 Z = true := wa hw 38 rfl
theorem w39 {Z a0} (hw : HW Z a0) : ((Cond.laysFinal s2 s2 "seconds" "J")).before a0 Z = true := wa hw 39 rfl
theorem w40 {Z a0} (hw : HW Z a0) : ((Cond.methodLink s2 416 mn3)).before a0 Z = true := wa hw 40 rfl
theorem w41 {Z a0} (hw : HW Z a0) : ((Cond.static mn3)).before a0 Z = true := wa hw 41 rfl
theorem w42 {Z a0} (hw : HW Z a0) : ((Cond.initialized "java/lang/Long")).before a0 Z = true := wa hw 42 rfl
theorem w43 {Z a0} (hw : HW Z a0) : ((Cond.code mn3 jdk_35_method_42_code 4 (Option.some FieldType.int))).before a0 Z = true := wa hw 43 rfl
theorem w44 {Z a0} (hw : HW Z a0) : ((Cond.methodLink "com/example/harbinger/harbinger/BackoffFailedPinLaw" 38 mn10)).before a0 Z = true := wa hw 44 rfl
theorem w45 {Z a0} (hw : HW Z a0) : ((Cond.static mn10)).before a0 Z = true := wa hw 45 rfl
theorem w46 {Z a0} (hw : HW Z a0) : ((Cond.initialized "com/example/harbinger/harbinger/BackoffFailedPinLaw")).before a0 Z = true := wa hw 46 rfl
theorem w47 {Z a0} (hw : HW Z a0) : ((Cond.code mn10 method_3_code 2 (Option.some FieldType.boolean))).before a0 Z = true := wa hw 47 rfl
theorem w48 {Z a0} (hw : HW Z a0) : ((Cond.methodLink "com/example/harbinger/harbinger/BackoffFailedPinLaw" 15 mn7)).before a0 Z = true := wa hw 48 rfl
theorem w49 {Z a0} (hw : HW Z a0) : ((Cond.declares mn7)).before a0 Z = true := wa hw 49 rfl
theorem w50 {Z a0} (hw : HW Z a0) : ((Cond.instanceMethod mn7)).before a0 Z = true := wa hw 50 rfl
theorem w51 {Z a0} (hw : HW Z a0) : ((Cond.selects s2 mn7 mn7)).before a0 Z = true := wa hw 51 rfl
theorem w52 {Z a0} (hw : HW Z a0) : ((Cond.code mn7 jdk_2316_method_23_code 1 (Option.some FieldType.long))).before a0 Z = true := wa hw 52 rfl
theorem w53 {Z a0} (hw : HW Z a0) : ((Cond.methodLink "com/example/harbinger/harbinger/BackoffFailedPinLaw" 21 mn8)).before a0 Z = true := wa hw 53 rfl
theorem w54 {Z a0} (hw : HW Z a0) : ((Cond.static mn8)).before a0 Z = true := wa hw 54 rfl
theorem w55 {Z a0} (hw : HW Z a0) : ((Cond.code mn8 method_2_code 1 (Option.some FieldType.long))).before a0 Z = true := wa hw 55 rfl
theorem w56 {Z a0} (hw : HW Z a0) : ((Cond.methodLink "com/example/harbinger/harbinger/BackoffFailedPinLaw" 27 mn9)).before a0 Z = true := wa hw 56 rfl
theorem w57 {Z a0} (hw : HW Z a0) : ((Cond.declares mn9)).before a0 Z = true := wa hw 57 rfl
theorem w58 {Z a0} (hw : HW Z a0) : ((Cond.instanceMethod mn9)).before a0 Z = true := wa hw 58 rfl
theorem w59 {Z a0} (hw : HW Z a0) : ((Cond.selects s2 mn9 mn9)).before a0 Z = true := wa hw 59 rfl
theorem w60 {Z a0} (hw : HW Z a0) : ((Cond.code mn9 jdk_2316_method_24_code 1 (Option.some FieldType.int))).before a0 Z = true := wa hw 60 rfl
theorem w61 {Z a0} (hw : HW Z a0) : ((Cond.fieldLink s2 224 s2 "nanos" "I")).before a0 Z = true := wa hw 61 rfl
theorem w62 {Z a0} (hw : HW Z a0) : ((Cond.laysFinal s2 s2 "nanos" "I")).before a0 Z = true := wa hw 62 rfl
theorem w63 {Z a0} (hw : HW Z a0) : ((Cond.methodLink s2 309 mn22)).before a0 Z = true := wa hw 63 rfl
theorem w64 {Z a0} (hw : HW Z a0) : ((Cond.instanceMethod mn22)).before a0 Z = true := wa hw 64 rfl
theorem w65 {Z a0} (hw : HW Z a0) : ((Cond.privateMethod mn22)).before a0 Z = true := wa hw 65 rfl
theorem w66 {Z a0} (hw : HW Z a0) : ((Cond.selects s2 mn22 mn22)).before a0 Z = true := wa hw 66 rfl
theorem w67 {Z a0} (hw : HW Z a0) : ((Cond.code mn22 jdk_2316_method_47_code 1 (Option.some (FieldType.object s0)))).before a0 Z = true := wa hw 67 rfl
theorem w68 {Z a0} (hw : HW Z a0) : ((Cond.methodLink s2 313 mn11)).before a0 Z = true := wa hw 68 rfl
theorem w69 {Z a0} (hw : HW Z a0) : ((Cond.static mn11)).before a0 Z = true := wa hw 69 rfl
theorem w70 {Z a0} (hw : HW Z a0) : ((Cond.initialized s0)).before a0 Z = true := wa hw 70 rfl
theorem w71 {Z a0} (hw : HW Z a0) : ((Cond.code mn11 jdk_17_method_21_code 2 (Option.some (FieldType.object s0)))).before a0 Z = true := wa hw 71 rfl
theorem w72 {Z a0} (hw : HW Z a0) : ((Cond.fieldLink s0 246 s0 s12 s7)).before a0 Z = true := wa hw 72 rfl
theorem w73 {Z a0} (hw : HW Z a0) : ((Cond.methodLink s2 347 mn13)).before a0 Z = true := wa hw 73 rfl
theorem w74 {Z a0} (hw : HW Z a0) : ((Cond.static mn13)).before a0 Z = true := wa hw 74 rfl
theorem w75 {Z a0} (hw : HW Z a0) : ((Cond.code mn13 jdk_17_method_20_code 3 (Option.some (FieldType.object s0)))).before a0 Z = true := wa hw 75 rfl
theorem w76 {Z a0} (hw : HW Z a0) : ((Cond.methodLink s0 239 mn12)).before a0 Z = true := wa hw 76 rfl
theorem w77 {Z a0} (hw : HW Z a0) : ((Cond.static mn12)).before a0 Z = true := wa hw 77 rfl
theorem w78 {Z a0} (hw : HW Z a0) : ((Cond.code mn12 jdk_17_method_24_code 1 (Option.some (FieldType.object s0)))).before a0 Z = true := wa hw 78 rfl
theorem w79 {Z a0} (hw : HW Z a0) : ((Cond.fieldLink s0 250 s0 s16 s7)).before a0 Z = true := wa hw 79 rfl
theorem w80 {Z a0} (hw : HW Z a0) : ((Cond.methodLink s2 350 mn21)).before a0 Z = true := wa hw 80 rfl
theorem w81 {Z a0} (hw : HW Z a0) : ((Cond.declares mn21)).before a0 Z = true := wa hw 81 rfl
theorem w82 {Z a0} (hw : HW Z a0) : ((Cond.instanceMethod mn21)).before a0 Z = true := wa hw 82 rfl
theorem w83 {Z a0} (hw : HW Z a0) : ((Cond.selects s0 mn21 mn21)).before a0 Z = true := wa hw 83 rfl
theorem w84 {Z a0} (hw : HW Z a0) : ((Cond.code mn21 jdk_17_method_26_code 2 (Option.some (FieldType.object s0)))).before a0 Z = true := wa hw 84 rfl
theorem w85 {Z a0} (hw : HW Z a0) : ((Cond.fieldLink s0 24 s0 s4 "J")).before a0 Z = true := wa hw 85 rfl
theorem w86 {Z a0} (hw : HW Z a0) : ((Cond.laysFinal s0 s0 s4 "J")).before a0 Z = true := wa hw 86 rfl
theorem w87 {Z a0} (hw : HW Z a0) : ((Cond.constantLong s0 125 (-9223372036854775808 : Int64))).before a0 Z = true := wa hw 87 rfl
theorem w88 {Z a0} (hw : HW Z a0) : ((Cond.fieldLink s0 17 s0 "scale" "I")).before a0 Z = true := wa hw 88 rfl
theorem w89 {Z a0} (hw : HW Z a0) : ((Cond.laysFinal s0 s0 "scale" "I")).before a0 Z = true := wa hw 89 rfl
theorem w90 {Z a0} (hw : HW Z a0) : ((Cond.methodLink s0 257 mn20)).before a0 Z = true := wa hw 90 rfl
theorem w91 {Z a0} (hw : HW Z a0) : ((Cond.static mn20)).before a0 Z = true := wa hw 91 rfl
theorem w92 {Z a0} (hw : HW Z a0) : ((Cond.code mn20 jdk_17_method_134_code 12 (Option.some (FieldType.object s0)))).before a0 Z = true := wa hw 92 rfl
theorem w93 {Z a0} (hw : HW Z a0) : ((Cond.methodLink s0 994 mn14)).before a0 Z = true := wa hw 93 rfl
theorem w94 {Z a0} (hw : HW Z a0) : ((Cond.static mn14)).before a0 Z = true := wa hw 94 rfl
theorem w95 {Z a0} (hw : HW Z a0) : ((Cond.code mn14 jdk_17_method_113_code 5 (Option.some FieldType.int))).before a0 Z = true := wa hw 95 rfl
theorem w96 {Z a0} (hw : HW Z a0) : ((Cond.methodLink s0 599 mn15)).before a0 Z = true := wa hw 96 rfl
theorem w97 {Z a0} (hw : HW Z a0) : ((Cond.static mn15)).before a0 Z = true := wa hw 97 rfl
theorem w98 {Z a0} (hw : HW Z a0) : ((Cond.code mn15 jdk_17_method_97_code 7 (Option.some FieldType.long))).before a0 Z = true := wa hw 98 rfl
theorem w99 {Z a0} (hw : HW Z a0) : ((Cond.fieldLink s0 95 s0 s13 "[J")).before a0 Z = true := wa hw 99 rfl
theorem w100 {Z a0} (hw : HW Z a0) : ((Cond.fieldLink s0 825 s0 s14 "[J")).before a0 Z = true := wa hw 100 rfl
theorem w101 {Z a0} (hw : HW Z a0) : ((Cond.methodLink s0 1000 mn19)).before a0 Z = true := wa hw 101 rfl
theorem w102 {Z a0} (hw : HW Z a0) : ((Cond.static mn19)).before a0 Z = true := wa hw 102 rfl
theorem w103 {Z a0} (hw : HW Z a0) : ((Cond.code mn19 jdk_17_method_133_code 7 (Option.some (FieldType.object s0)))).before a0 Z = true := wa hw 103 rfl
theorem w104 {Z a0} (hw : HW Z a0) : ((Cond.methodLink s0 996 mn16)).before a0 Z = true := wa hw 104 rfl
theorem w105 {Z a0} (hw : HW Z a0) : ((Cond.static mn16)).before a0 Z = true := wa hw 105 rfl
theorem w106 {Z a0} (hw : HW Z a0) : ((Cond.code mn16 jdk_17_method_132_code 6 (Option.some FieldType.long))).before a0 Z = true := wa hw 106 rfl
theorem w107 {Z a0} (hw : HW Z a0) : ((Cond.methodLink s0 328 mn13)).before a0 Z = true := wa hw 107 rfl
theorem w108 {Z a0} (hw : HW Z a0) : ((Cond.classLink s0 3 s0)).before a0 Z = true := wa hw 108 rfl
theorem w109 {Z a0} (hw : HW Z a0) : ((Cond.instantiable s0 5)).before a0 Z = true := wa hw 109 rfl
theorem w110 {Z a0} (hw : HW Z a0) : ((Cond.methodLink s0 243 mn18)).before a0 Z = true := wa hw 110 rfl
theorem w111 {Z a0} (hw : HW Z a0) : ((Cond.instanceMethod mn18)).before a0 Z = true := wa hw 111 rfl
theorem w113 {Z a0} (hw : HW Z a0) : ((Cond.code mn18 jdk_17_method_1_code 6 (Option.none : Option Jvm.ClassFile.FieldType))).before a0 Z = true := wa hw 113 rfl
theorem w114 {Z a0} (hw : HW Z a0) : ((Cond.methodLink s0 11 mn17)).before a0 Z = true := wa hw 114 rfl
theorem w115 {Z a0} (hw : HW Z a0) : ((Cond.instanceMethod mn17)).before a0 Z = true := wa hw 115 rfl
theorem w118 {Z a0} (hw : HW Z a0) : ((Cond.initialized "java/lang/Number")).before a0 Z = true := wa hw 118 rfl
theorem w119 {Z a0} (hw : HW Z a0) : ((Cond.code mn17 jdk_18_method_1_code 1 (Option.none : Option Jvm.ClassFile.FieldType))).before a0 Z = true := wa hw 119 rfl
theorem w120 {Z a0} (hw : HW Z a0) : ((Cond.methodLink "java/lang/Number" 1 ⟨"java/lang/Object", "<init>", "()V"⟩)).before a0 Z = true := wa hw 120 rfl
theorem w121 {Z a0} (hw : HW Z a0) : ((Cond.fieldLink s0 21 s0 s10 "I")).before a0 Z = true := wa hw 121 rfl
theorem w122 {Z a0} (hw : HW Z a0) : ((Cond.lays s0 s0 s10 "I")).before a0 Z = true := wa hw 122 rfl
theorem w123 {Z a0} (hw : HW Z a0) : ((Cond.fieldLink s0 28 s0 "intVal" s5)).before a0 Z = true := wa hw 123 rfl
theorem w124 {Z a0} (hw : HW Z a0) : ((Cond.laysFinal s0 s0 "intVal" s5)).before a0 Z = true := wa hw 124 rfl
theorem w125 {Z a0} (hw : HW Z a0) : ((Cond.methodLink s2 319 mn27)).before a0 Z = true := wa hw 125 rfl
theorem w126 {Z a0} (hw : HW Z a0) : ((Cond.declares mn27)).before a0 Z = true := wa hw 126 rfl
theorem w127 {Z a0} (hw : HW Z a0) : ((Cond.instanceMethod mn27)).before a0 Z = true := wa hw 127 rfl
theorem w128 {Z a0} (hw : HW Z a0) : ((Cond.selects s0 mn27 mn27)).before a0 Z = true := wa hw 128 rfl
theorem w129 {Z a0} (hw : HW Z a0) : ((Cond.code mn27 jdk_17_method_31_code 3 (Option.some (FieldType.object s0)))).before a0 Z = true := wa hw 129 rfl
theorem w130 {Z a0} (hw : HW Z a0) : ((Cond.methodLink s0 325 mn23)).before a0 Z = true := wa hw 130 rfl
theorem w131 {Z a0} (hw : HW Z a0) : ((Cond.instanceMethod mn23)).before a0 Z = true := wa hw 131 rfl
theorem w132 {Z a0} (hw : HW Z a0) : ((Cond.privateMethod mn23)).before a0 Z = true := wa hw 132 rfl
theorem w133 {Z a0} (hw : HW Z a0) : ((Cond.selects s0 mn23 mn23)).before a0 Z = true := wa hw 133 rfl
theorem w134 {Z a0} (hw : HW Z a0) : ((Cond.code mn23 jdk_17_method_106_code 5 (Option.some FieldType.int))).before a0 Z = true := wa hw 134 rfl
theorem w135 {Z a0} (hw : HW Z a0) : ((Cond.methodLink s0 342 mn26)).before a0 Z = true := wa hw 135 rfl
theorem w136 {Z a0} (hw : HW Z a0) : ((Cond.static mn26)).before a0 Z = true := wa hw 136 rfl
theorem w137 {Z a0} (hw : HW Z a0) : ((Cond.code mn26 jdk_17_method_157_code 7 (Option.some (FieldType.object s0)))).before a0 Z = true := wa hw 137 rfl
theorem w138 {Z a0} (hw : HW Z a0) : ((Cond.methodLink s0 1055 mn25)).before a0 Z = true := wa hw 138 rfl
theorem w139 {Z a0} (hw : HW Z a0) : ((Cond.static mn25)).before a0 Z = true := wa hw 139 rfl
theorem w140 {Z a0} (hw : HW Z a0) : ((Cond.code mn25 jdk_17_method_156_code 10 (Option.some FieldType.long))).before a0 Z = true := wa hw 140 rfl
theorem w141 {Z a0} (hw : HW Z a0) : ((Cond.methodLink s0 440 mn24)).before a0 Z = true := wa hw 141 rfl
theorem w142 {Z a0} (hw : HW Z a0) : ((Cond.static mn24)).before a0 Z = true := wa hw 142 rfl
theorem w143 {Z a0} (hw : HW Z a0) : ((Cond.code mn24 jdk_29_method_61_code 2 (Option.some FieldType.long))).before a0 Z = true := wa hw 143 rfl
theorem w144 {Z a0} (hw : HW Z a0) : ((Cond.methodLink s2 323 mn59)).before a0 Z = true := wa hw 144 rfl
theorem w145 {Z a0} (hw : HW Z a0) : ((Cond.static mn59)).before a0 Z = true := wa hw 145 rfl
theorem w146 {Z a0} (hw : HW Z a0) : ((Cond.code mn59 jdk_2316_method_48_code 3 (Option.some (FieldType.object s2)))).before a0 Z = true := wa hw 146 rfl
theorem w147 {Z a0} (hw : HW Z a0) : ((Cond.methodLink s2 353 mn28)).before a0 Z = true := wa hw 147 rfl
theorem w148 {Z a0} (hw : HW Z a0) : ((Cond.declares mn28)).before a0 Z = true := wa hw 148 rfl
theorem w149 {Z a0} (hw : HW Z a0) : ((Cond.instanceMethod mn28)).before a0 Z = true := wa hw 149 rfl
theorem w150 {Z a0} (hw : HW Z a0) : ((Cond.selects s0 mn28 mn28)).before a0 Z = true := wa hw 150 rfl
theorem w151 {Z a0} (hw : HW Z a0) : ((Cond.code mn28 jdk_17_method_67_code 4 (Option.some (FieldType.object s0)))).before a0 Z = true := wa hw 151 rfl
theorem w152 {Z a0} (hw : HW Z a0) : ((Cond.methodLink s2 357 mn33)).before a0 Z = true := wa hw 152 rfl
theorem w153 {Z a0} (hw : HW Z a0) : ((Cond.declares mn33)).before a0 Z = true := wa hw 153 rfl
theorem w154 {Z a0} (hw : HW Z a0) : ((Cond.instanceMethod mn33)).before a0 Z = true := wa hw 154 rfl
theorem w155 {Z a0} (hw : HW Z a0) : ((Cond.selects s0 mn33 mn33)).before a0 Z = true := wa hw 155 rfl
theorem w156 {Z a0} (hw : HW Z a0) : ((Cond.code mn33 jdk_17_method_81_code 1 (Option.some (FieldType.object s1)))).before a0 Z = true := wa hw 156 rfl
theorem w157 {Z a0} (hw : HW Z a0) : ((Cond.methodLink s0 419 mn29)).before a0 Z = true := wa hw 157 rfl
theorem w158 {Z a0} (hw : HW Z a0) : ((Cond.declares mn29)).before a0 Z = true := wa hw 158 rfl
theorem w159 {Z a0} (hw : HW Z a0) : ((Cond.instanceMethod mn29)).before a0 Z = true := wa hw 159 rfl
theorem w160 {Z a0} (hw : HW Z a0) : ((Cond.selects s0 mn29 mn29)).before a0 Z = true := wa hw 160 rfl
theorem w161 {Z a0} (hw : HW Z a0) : ((Cond.code mn29 jdk_17_method_64_code 8 (Option.some (FieldType.object s0)))).before a0 Z = true := wa hw 161 rfl
theorem w162 {Z a0} (hw : HW Z a0) : ((Cond.methodLink s0 302 mn32)).before a0 Z = true := wa hw 162 rfl
theorem w163 {Z a0} (hw : HW Z a0) : ((Cond.instanceMethod mn32)).before a0 Z = true := wa hw 163 rfl
theorem w164 {Z a0} (hw : HW Z a0) : ((Cond.privateMethod mn32)).before a0 Z = true := wa hw 164 rfl
theorem w165 {Z a0} (hw : HW Z a0) : ((Cond.selects s0 mn32 mn32)).before a0 Z = true := wa hw 165 rfl
theorem w166 {Z a0} (hw : HW Z a0) : ((Cond.code mn32 jdk_17_method_99_code 1 (Option.some (FieldType.object s1)))).before a0 Z = true := wa hw 166 rfl
theorem w167 {Z a0} (hw : HW Z a0) : ((Cond.methodLink s0 193 mn31)).before a0 Z = true := wa hw 167 rfl
theorem w168 {Z a0} (hw : HW Z a0) : ((Cond.static mn31)).before a0 Z = true := wa hw 168 rfl
theorem w169 {Z a0} (hw : HW Z a0) : ((Cond.initialized s1)).before a0 Z = true := wa hw 169 rfl
theorem w170 {Z a0} (hw : HW Z a0) : ((Cond.code mn31 jdk_2097_method_29_code 2 (Option.some (FieldType.object s1)))).before a0 Z = true := wa hw 170 rfl
theorem w171 {Z a0} (hw : HW Z a0) : ((Cond.constantLong s1 345 (16 : Int64))).before a0 Z = true := wa hw 171 rfl
theorem w172 {Z a0} (hw : HW Z a0) : ((Cond.classLink s1 23 s1)).before a0 Z = true := wa hw 172 rfl
theorem w173 {Z a0} (hw : HW Z a0) : ((Cond.instantiable s1 6)).before a0 Z = true := wa hw 173 rfl
theorem w174 {Z a0} (hw : HW Z a0) : ((Cond.methodLink s1 356 mn30)).before a0 Z = true := wa hw 174 rfl
theorem w175 {Z a0} (hw : HW Z a0) : ((Cond.instanceMethod mn30)).before a0 Z = true := wa hw 175 rfl
theorem w177 {Z a0} (hw : HW Z a0) : ((Cond.code mn30 jdk_2097_method_30_code 4 (Option.none : Option Jvm.ClassFile.FieldType))).before a0 Z = true := wa hw 177 rfl
theorem w178 {Z a0} (hw : HW Z a0) : ((Cond.methodLink s1 3 mn17)).before a0 Z = true := wa hw 178 rfl
theorem w180 {Z a0} (hw : HW Z a0) : ((Cond.fieldLink s1 32 s1 "signum" "I")).before a0 Z = true := wa hw 180 rfl
theorem w181 {Z a0} (hw : HW Z a0) : ((Cond.laysFinal s1 s1 "signum" "I")).before a0 Z = true := wa hw 181 rfl
theorem w182 {Z a0} (hw : HW Z a0) : ((Cond.arrayClass FieldType.int)).before a0 Z = true := wa hw 182 rfl
theorem w183 {Z a0} (hw : HW Z a0) : ((Cond.fieldLink s1 28 s1 "mag" "[I")).before a0 Z = true := wa hw 183 rfl
theorem w184 {Z a0} (hw : HW Z a0) : ((Cond.laysFinal s1 s1 "mag" "[I")).before a0 Z = true := wa hw 184 rfl
theorem w185 {Z a0} (hw : HW Z a0) : ((Cond.fieldLink s2 361 s2 s15 s5)).before a0 Z = true := wa hw 185 rfl
theorem w186 {Z a0} (hw : HW Z a0) : ((Cond.methodLink s2 365 mn45)).before a0 Z = true := wa hw 186 rfl
theorem w187 {Z a0} (hw : HW Z a0) : ((Cond.declares mn45)).before a0 Z = true := wa hw 187 rfl
theorem w188 {Z a0} (hw : HW Z a0) : ((Cond.instanceMethod mn45)).before a0 Z = true := wa hw 188 rfl
theorem w189 {Z a0} (hw : HW Z a0) : ((Cond.selects s1 mn45 mn45)).before a0 Z = true := wa hw 189 rfl
theorem w190 {Z a0} (hw : HW Z a0) : ((Cond.code mn45 jdk_2097_method_63_code 2 (Option.some (FieldType.array (FieldType.object s1))))).before a0 Z = true := wa hw 190 rfl
theorem w191 {Z a0} (hw : HW Z a0) : ((Cond.methodLink s1 551 mn44)).before a0 Z = true := wa hw 191 rfl
theorem w192 {Z a0} (hw : HW Z a0) : ((Cond.instanceMethod mn44)).before a0 Z = true := wa hw 192 rfl
theorem w193 {Z a0} (hw : HW Z a0) : ((Cond.privateMethod mn44)).before a0 Z = true := wa hw 193 rfl
theorem w194 {Z a0} (hw : HW Z a0) : ((Cond.selects s1 mn44 mn44)).before a0 Z = true := wa hw 194 rfl
theorem w195 {Z a0} (hw : HW Z a0) : ((Cond.code mn44 jdk_2097_method_64_code 7 (Option.some (FieldType.array (FieldType.object s1))))).before a0 Z = true := wa hw 195 rfl
theorem w196 {Z a0} (hw : HW Z a0) : ((Cond.arrayOver (FieldType.object s1))).before a0 Z = true := wa hw 196 rfl
theorem w197 {Z a0} (hw : HW Z a0) : ((Cond.classLink s1 541 s3)).before a0 Z = true := wa hw 197 rfl
theorem w198 {Z a0} (hw : HW Z a0) : ((Cond.instantiable s3 3)).before a0 Z = true := wa hw 198 rfl
theorem w199 {Z a0} (hw : HW Z a0) : ((Cond.initialized s3)).before a0 Z = true := wa hw 199 rfl
theorem w200 {Z a0} (hw : HW Z a0) : ((Cond.methodLink s1 543 mn34)).before a0 Z = true := wa hw 200 rfl
theorem w201 {Z a0} (hw : HW Z a0) : ((Cond.instanceMethod mn34)).before a0 Z = true := wa hw 201 rfl
theorem w203 {Z a0} (hw : HW Z a0) : ((Cond.code mn34 jdk_2101_method_1_code 1 (Option.none : Option Jvm.ClassFile.FieldType))).before a0 Z = true := wa hw 203 rfl
theorem w204 {Z a0} (hw : HW Z a0) : ((Cond.methodLink s3 5 ⟨"java/lang/Object", "<init>", "()V"⟩)).before a0 Z = true := wa hw 204 rfl
theorem w205 {Z a0} (hw : HW Z a0) : ((Cond.fieldLink s3 11 s3 "offset" "I")).before a0 Z = true := wa hw 205 rfl
theorem w206 {Z a0} (hw : HW Z a0) : ((Cond.lays s3 s3 "offset" "I")).before a0 Z = true := wa hw 206 rfl
theorem w207 {Z a0} (hw : HW Z a0) : ((Cond.fieldLink s3 17 s3 "value" "[I")).before a0 Z = true := wa hw 207 rfl
theorem w208 {Z a0} (hw : HW Z a0) : ((Cond.lays s3 s3 "value" "[I")).before a0 Z = true := wa hw 208 rfl
theorem w209 {Z a0} (hw : HW Z a0) : ((Cond.fieldLink s3 21 s3 "intLen" "I")).before a0 Z = true := wa hw 209 rfl
theorem w210 {Z a0} (hw : HW Z a0) : ((Cond.lays s3 s3 "intLen" "I")).before a0 Z = true := wa hw 210 rfl
theorem w211 {Z a0} (hw : HW Z a0) : ((Cond.methodLink s1 544 mn35)).before a0 Z = true := wa hw 211 rfl
theorem w212 {Z a0} (hw : HW Z a0) : ((Cond.instanceMethod mn35)).before a0 Z = true := wa hw 212 rfl
theorem w213 {Z a0} (hw : HW Z a0) : ((Cond.code mn35 jdk_2101_method_3_code 2 (Option.none : Option Jvm.ClassFile.FieldType))).before a0 Z = true := wa hw 213 rfl
theorem w214 {Z a0} (hw : HW Z a0) : ((Cond.methodLink s1 558 mn40)).before a0 Z = true := wa hw 214 rfl
theorem w215 {Z a0} (hw : HW Z a0) : ((Cond.declares mn40)).before a0 Z = true := wa hw 215 rfl
theorem w216 {Z a0} (hw : HW Z a0) : ((Cond.instanceMethod mn40)).before a0 Z = true := wa hw 216 rfl
theorem w217 {Z a0} (hw : HW Z a0) : ((Cond.selects s3 mn40 mn40)).before a0 Z = true := wa hw 217 rfl
theorem w218 {Z a0} (hw : HW Z a0) : ((Cond.code mn40 jdk_2101_method_56_code 3 (Option.some (FieldType.object s3)))).before a0 Z = true := wa hw 218 rfl
theorem w219 {Z a0} (hw : HW Z a0) : ((Cond.methodLink s3 163 mn39)).before a0 Z = true := wa hw 219 rfl
theorem w220 {Z a0} (hw : HW Z a0) : ((Cond.declares mn39)).before a0 Z = true := wa hw 220 rfl
theorem w221 {Z a0} (hw : HW Z a0) : ((Cond.instanceMethod mn39)).before a0 Z = true := wa hw 221 rfl
theorem w222 {Z a0} (hw : HW Z a0) : ((Cond.selects s3 mn39 mn39)).before a0 Z = true := wa hw 222 rfl
theorem w223 {Z a0} (hw : HW Z a0) : ((Cond.code mn39 jdk_2101_method_57_code 8 (Option.some (FieldType.object s3)))).before a0 Z = true := wa hw 223 rfl
theorem w224 {Z a0} (hw : HW Z a0) : ((Cond.methodLink s3 142 mn36)).before a0 Z = true := wa hw 224 rfl
theorem w225 {Z a0} (hw : HW Z a0) : ((Cond.declares mn36)).before a0 Z = true := wa hw 225 rfl
theorem w226 {Z a0} (hw : HW Z a0) : ((Cond.instanceMethod mn36)).before a0 Z = true := wa hw 226 rfl
theorem w227 {Z a0} (hw : HW Z a0) : ((Cond.selects s3 mn36 mn36)).before a0 Z = true := wa hw 227 rfl
theorem w228 {Z a0} (hw : HW Z a0) : ((Cond.code mn36 jdk_2101_method_15_code 8 (Option.some FieldType.int))).before a0 Z = true := wa hw 228 rfl
theorem w229 {Z a0} (hw : HW Z a0) : ((Cond.constant s3 88 (-2147483648 : Int32))).before a0 Z = true := wa hw 229 rfl
theorem w230 {Z a0} (hw : HW Z a0) : ((Cond.methodLink s3 149 mn37)).before a0 Z = true := wa hw 230 rfl
theorem w231 {Z a0} (hw : HW Z a0) : ((Cond.declares mn37)).before a0 Z = true := wa hw 231 rfl
theorem w232 {Z a0} (hw : HW Z a0) : ((Cond.instanceMethod mn37)).before a0 Z = true := wa hw 232 rfl
theorem w233 {Z a0} (hw : HW Z a0) : ((Cond.selects s3 mn37 mn37)).before a0 Z = true := wa hw 233 rfl
theorem w234 {Z a0} (hw : HW Z a0) : ((Cond.code mn37 jdk_2101_method_13_code 3 (Option.none : Option Jvm.ClassFile.FieldType))).before a0 Z = true := wa hw 234 rfl
theorem w235 {Z a0} (hw : HW Z a0) : ((Cond.methodLink s3 178 mn38)).before a0 Z = true := wa hw 235 rfl
theorem w236 {Z a0} (hw : HW Z a0) : ((Cond.declares mn38)).before a0 Z = true := wa hw 236 rfl
theorem w237 {Z a0} (hw : HW Z a0) : ((Cond.instanceMethod mn38)).before a0 Z = true := wa hw 237 rfl
theorem w238 {Z a0} (hw : HW Z a0) : ((Cond.selects s3 mn38 mn38)).before a0 Z = true := wa hw 238 rfl
theorem w239 {Z a0} (hw : HW Z a0) : ((Cond.code mn38 jdk_2101_method_53_code 15 (Option.some FieldType.int))).before a0 Z = true := wa hw 239 rfl
theorem w240 {Z a0} (hw : HW Z a0) : ((Cond.constantLong s3 52 (4294967295 : Int64))).before a0 Z = true := wa hw 240 rfl
theorem w241 {Z a0} (hw : HW Z a0) : ((Cond.classLink s3 12 s3)).before a0 Z = true := wa hw 241 rfl
theorem w242 {Z a0} (hw : HW Z a0) : ((Cond.methodLink s3 177 mn34)).before a0 Z = true := wa hw 242 rfl
theorem w243 {Z a0} (hw : HW Z a0) : ((Cond.methodLink s1 548 mn43)).before a0 Z = true := wa hw 243 rfl
theorem w244 {Z a0} (hw : HW Z a0) : ((Cond.declares mn43)).before a0 Z = true := wa hw 244 rfl
theorem w245 {Z a0} (hw : HW Z a0) : ((Cond.instanceMethod mn43)).before a0 Z = true := wa hw 245 rfl
theorem w246 {Z a0} (hw : HW Z a0) : ((Cond.selects s3 mn43 mn43)).before a0 Z = true := wa hw 246 rfl
theorem w247 {Z a0} (hw : HW Z a0) : ((Cond.code mn43 jdk_2101_method_9_code 2 (Option.some (FieldType.object s1)))).before a0 Z = true := wa hw 247 rfl
theorem w248 {Z a0} (hw : HW Z a0) : ((Cond.classLink s3 1 s1)).before a0 Z = true := wa hw 248 rfl
theorem w249 {Z a0} (hw : HW Z a0) : ((Cond.methodLink s3 58 mn41)).before a0 Z = true := wa hw 249 rfl
theorem w250 {Z a0} (hw : HW Z a0) : ((Cond.instanceMethod mn41)).before a0 Z = true := wa hw 250 rfl
theorem w251 {Z a0} (hw : HW Z a0) : ((Cond.privateMethod mn41)).before a0 Z = true := wa hw 251 rfl
theorem w252 {Z a0} (hw : HW Z a0) : ((Cond.selects s3 mn41 mn41)).before a0 Z = true := wa hw 252 rfl
theorem w253 {Z a0} (hw : HW Z a0) : ((Cond.code mn41 jdk_2101_method_7_code 2 (Option.some (FieldType.array FieldType.int)))).before a0 Z = true := wa hw 253 rfl
theorem w254 {Z a0} (hw : HW Z a0) : ((Cond.methodLink s3 62 mn42)).before a0 Z = true := wa hw 254 rfl
theorem w255 {Z a0} (hw : HW Z a0) : ((Cond.instanceMethod mn42)).before a0 Z = true := wa hw 255 rfl
theorem w256 {Z a0} (hw : HW Z a0) : ((Cond.code mn42 jdk_2097_method_25_code 3 (Option.none : Option Jvm.ClassFile.FieldType))).before a0 Z = true := wa hw 256 rfl
theorem w257 {Z a0} (hw : HW Z a0) : ((Cond.constant s1 43 (67108864 : Int32))).before a0 Z = true := wa hw 257 rfl
theorem w258 {Z a0} (hw : HW Z a0) : ((Cond.fieldLink s3 54 s1 "ZERO" s5)).before a0 Z = true := wa hw 258 rfl
theorem w259 {Z a0} (hw : HW Z a0) : ((Cond.methodLink s2 371 mn48)).before a0 Z = true := wa hw 259 rfl
theorem w260 {Z a0} (hw : HW Z a0) : ((Cond.declares mn48)).before a0 Z = true := wa hw 260 rfl
theorem w261 {Z a0} (hw : HW Z a0) : ((Cond.instanceMethod mn48)).before a0 Z = true := wa hw 261 rfl
theorem w262 {Z a0} (hw : HW Z a0) : ((Cond.selects s1 mn48 mn48)).before a0 Z = true := wa hw 262 rfl
theorem w263 {Z a0} (hw : HW Z a0) : ((Cond.code mn48 jdk_2097_method_118_code 7 (Option.some FieldType.int))).before a0 Z = true := wa hw 263 rfl
theorem w264 {Z a0} (hw : HW Z a0) : ((Cond.fieldLink s1 747 s1 s8 "I")).before a0 Z = true := wa hw 264 rfl
theorem w265 {Z a0} (hw : HW Z a0) : ((Cond.lays s1 s1 s8 "I")).before a0 Z = true := wa hw 265 rfl
theorem w266 {Z a0} (hw : HW Z a0) : ((Cond.methodLink s1 605 mn47)).before a0 Z = true := wa hw 266 rfl
theorem w267 {Z a0} (hw : HW Z a0) : ((Cond.static mn47)).before a0 Z = true := wa hw 267 rfl
theorem w268 {Z a0} (hw : HW Z a0) : ((Cond.code mn47 jdk_2097_method_74_code 1 (Option.some FieldType.int))).before a0 Z = true := wa hw 268 rfl
theorem w269 {Z a0} (hw : HW Z a0) : ((Cond.methodLink s1 602 mn46)).before a0 Z = true := wa hw 269 rfl
theorem w270 {Z a0} (hw : HW Z a0) : ((Cond.static mn46)).before a0 Z = true := wa hw 270 rfl
theorem w271 {Z a0} (hw : HW Z a0) : ((Cond.initialized "java/lang/Integer")).before a0 Z = true := wa hw 271 rfl
theorem w272 {Z a0} (hw : HW Z a0) : ((Cond.code mn46 jdk_33_method_47_code 2 (Option.some FieldType.int))).before a0 Z = true := wa hw 272 rfl
theorem w273 {Z a0} (hw : HW Z a0) : ((Cond.constant "java/lang/Integer" 264 (65536 : Int32))).before a0 Z = true := wa hw 273 rfl
theorem w274 {Z a0} (hw : HW Z a0) : ((Cond.methodLink s2 376 mn51)).before a0 Z = true := wa hw 274 rfl
theorem w275 {Z a0} (hw : HW Z a0) : ((Cond.declares mn51)).before a0 Z = true := wa hw 275 rfl
theorem w276 {Z a0} (hw : HW Z a0) : ((Cond.instanceMethod mn51)).before a0 Z = true := wa hw 276 rfl
theorem w277 {Z a0} (hw : HW Z a0) : ((Cond.selects s1 mn51 mn51)).before a0 Z = true := wa hw 277 rfl
theorem w278 {Z a0} (hw : HW Z a0) : ((Cond.code mn51 jdk_2097_method_136_code 4 (Option.some FieldType.long))).before a0 Z = true := wa hw 278 rfl
theorem w279 {Z a0} (hw : HW Z a0) : ((Cond.methodLink s1 736 mn50)).before a0 Z = true := wa hw 279 rfl
theorem w280 {Z a0} (hw : HW Z a0) : ((Cond.instanceMethod mn50)).before a0 Z = true := wa hw 280 rfl
theorem w281 {Z a0} (hw : HW Z a0) : ((Cond.privateMethod mn50)).before a0 Z = true := wa hw 281 rfl
theorem w282 {Z a0} (hw : HW Z a0) : ((Cond.selects s1 mn50 mn50)).before a0 Z = true := wa hw 282 rfl
theorem w283 {Z a0} (hw : HW Z a0) : ((Cond.code mn50 jdk_2097_method_148_code 3 (Option.some FieldType.int))).before a0 Z = true := wa hw 283 rfl
theorem w284 {Z a0} (hw : HW Z a0) : ((Cond.methodLink s1 860 mn49)).before a0 Z = true := wa hw 284 rfl
theorem w285 {Z a0} (hw : HW Z a0) : ((Cond.instanceMethod mn49)).before a0 Z = true := wa hw 285 rfl
theorem w286 {Z a0} (hw : HW Z a0) : ((Cond.privateMethod mn49)).before a0 Z = true := wa hw 286 rfl
theorem w287 {Z a0} (hw : HW Z a0) : ((Cond.selects s1 mn49 mn49)).before a0 Z = true := wa hw 287 rfl
theorem w288 {Z a0} (hw : HW Z a0) : ((Cond.code mn49 jdk_2097_method_147_code 1 (Option.some FieldType.int))).before a0 Z = true := wa hw 288 rfl
theorem w289 {Z a0} (hw : HW Z a0) : ((Cond.constantLong s1 130 (4294967295 : Int64))).before a0 Z = true := wa hw 289 rfl
theorem w290 {Z a0} (hw : HW Z a0) : ((Cond.methodLink s2 379 mn52)).before a0 Z = true := wa hw 290 rfl
theorem w291 {Z a0} (hw : HW Z a0) : ((Cond.declares mn52)).before a0 Z = true := wa hw 291 rfl
theorem w292 {Z a0} (hw : HW Z a0) : ((Cond.instanceMethod mn52)).before a0 Z = true := wa hw 292 rfl
theorem w293 {Z a0} (hw : HW Z a0) : ((Cond.selects s1 mn52 mn52)).before a0 Z = true := wa hw 293 rfl
theorem w294 {Z a0} (hw : HW Z a0) : ((Cond.code mn52 jdk_2097_method_135_code 2 (Option.some FieldType.int))).before a0 Z = true := wa hw 294 rfl
theorem w295 {Z a0} (hw : HW Z a0) : ((Cond.methodLink s2 176 mn58)).before a0 Z = true := wa hw 295 rfl
theorem w296 {Z a0} (hw : HW Z a0) : ((Cond.static mn58)).before a0 Z = true := wa hw 296 rfl
theorem w297 {Z a0} (hw : HW Z a0) : ((Cond.code mn58 jdk_2316_method_5_code 7 (Option.some (FieldType.object s2)))).before a0 Z = true := wa hw 297 rfl
theorem w298 {Z a0} (hw : HW Z a0) : ((Cond.constantLong s2 16 (1000000000 : Int64))).before a0 Z = true := wa hw 298 rfl
theorem w299 {Z a0} (hw : HW Z a0) : ((Cond.methodLink s2 18 mn53)).before a0 Z = true := wa hw 299 rfl
theorem w300 {Z a0} (hw : HW Z a0) : ((Cond.static mn53)).before a0 Z = true := wa hw 300 rfl
theorem w301 {Z a0} (hw : HW Z a0) : ((Cond.code mn53 jdk_29_method_49_code 6 (Option.some FieldType.long))).before a0 Z = true := wa hw 301 rfl
theorem w302 {Z a0} (hw : HW Z a0) : ((Cond.methodLink s2 22 mn54)).before a0 Z = true := wa hw 302 rfl
theorem w303 {Z a0} (hw : HW Z a0) : ((Cond.static mn54)).before a0 Z = true := wa hw 303 rfl
theorem w304 {Z a0} (hw : HW Z a0) : ((Cond.code mn54 jdk_29_method_25_code 6 (Option.some FieldType.long))).before a0 Z = true := wa hw 304 rfl
theorem w305 {Z a0} (hw : HW Z a0) : ((Cond.methodLink s2 25 mn55)).before a0 Z = true := wa hw 305 rfl
theorem w306 {Z a0} (hw : HW Z a0) : ((Cond.static mn55)).before a0 Z = true := wa hw 306 rfl
theorem w307 {Z a0} (hw : HW Z a0) : ((Cond.code mn55 jdk_29_method_52_code 6 (Option.some FieldType.long))).before a0 Z = true := wa hw 307 rfl
theorem w308 {Z a0} (hw : HW Z a0) : ((Cond.methodLink s2 10 mn57)).before a0 Z = true := wa hw 308 rfl
theorem w309 {Z a0} (hw : HW Z a0) : ((Cond.static mn57)).before a0 Z = true := wa hw 309 rfl
theorem w310 {Z a0} (hw : HW Z a0) : ((Cond.code mn57 jdk_2316_method_16_code 3 (Option.some (FieldType.object s2)))).before a0 Z = true := wa hw 310 rfl
theorem w311 {Z a0} (hw : HW Z a0) : ((Cond.classLink s2 11 s2)).before a0 Z = true := wa hw 311 rfl
theorem w312 {Z a0} (hw : HW Z a0) : ((Cond.instantiable s2 2)).before a0 Z = true := wa hw 312 rfl
theorem w313 {Z a0} (hw : HW Z a0) : ((Cond.methodLink s2 215 mn56)).before a0 Z = true := wa hw 313 rfl
theorem w314 {Z a0} (hw : HW Z a0) : ((Cond.instanceMethod mn56)).before a0 Z = true := wa hw 314 rfl
theorem w316 {Z a0} (hw : HW Z a0) : ((Cond.code mn56 jdk_2316_method_17_code 4 (Option.none : Option Jvm.ClassFile.FieldType))).before a0 Z = true := wa hw 316 rfl
theorem w317 {Z a0} (hw : HW Z a0) : ((Cond.methodLink s2 218 ⟨"java/lang/Object", "<init>", "()V"⟩)).before a0 Z = true := wa hw 317 rfl
theorem w318 {Z a0} (hw : HW Z a0) : ((Cond.constantLong "com/example/harbinger/harbinger/BackoffFailedPinLaw" 7 (2 : Int64))).before a0 Z = true := wa hw 318 rfl
theorem w319 {Z a0} (hw : HW Z a0) : ((Cond.constantLong "com/example/harbinger/harbinger/BackoffFailedPinLaw" 9 (4 : Int64))).before a0 Z = true := wa hw 319 rfl
theorem w320 {Z a0} (hw : HW Z a0) : ((Cond.methodLink s3 152 mn46)).before a0 Z = true := wa hw 320 rfl
theorem w321 {Z a0} (hw : HW Z a0) : ((Cond.methodLink s3 64 mn60)).before a0 Z = true := wa hw 321 rfl
theorem w322 {Z a0} (hw : HW Z a0) : ((Cond.declares mn60)).before a0 Z = true := wa hw 322 rfl
theorem w323 {Z a0} (hw : HW Z a0) : ((Cond.instanceMethod mn60)).before a0 Z = true := wa hw 323 rfl
theorem w324 {Z a0} (hw : HW Z a0) : ((Cond.selects s3 mn60 mn60)).before a0 Z = true := wa hw 324 rfl
theorem w325 {Z a0} (hw : HW Z a0) : ((Cond.code mn60 jdk_2101_method_21_code 4 (Option.none : Option Jvm.ClassFile.FieldType))).before a0 Z = true := wa hw 325 rfl
theorem w326 {Z a0} (hw : HW Z a0) : ((Cond.methodLink s3 33 mn63)).before a0 Z = true := wa hw 326 rfl
theorem w327 {Z a0} (hw : HW Z a0) : ((Cond.static mn63)).before a0 Z = true := wa hw 327 rfl
theorem w328 {Z a0} (hw : HW Z a0) : ((Cond.initialized "java/util/Arrays")).before a0 Z = true := wa hw 328 rfl
theorem w329 {Z a0} (hw : HW Z a0) : ((Cond.code mn63 jdk_65_method_136_code 3 (Option.some (FieldType.array FieldType.int)))).before a0 Z = true := wa hw 329 rfl
theorem w330 {Z a0} (hw : HW Z a0) : ((Cond.methodLink "java/util/Arrays" 351 mn62)).before a0 Z = true := wa hw 330 rfl
theorem w331 {Z a0} (hw : HW Z a0) : ((Cond.static mn62)).before a0 Z = true := wa hw 331 rfl
theorem w332 {Z a0} (hw : HW Z a0) : ((Cond.code mn62 jdk_65_method_137_code 5 (Option.some (FieldType.array FieldType.int)))).before a0 Z = true := wa hw 332 rfl
theorem w333 {Z a0} (hw : HW Z a0) : ((Cond.methodLink "java/util/Arrays" 343 mn61)).before a0 Z = true := wa hw 333 rfl
theorem w334 {Z a0} (hw : HW Z a0) : ((Cond.static mn61)).before a0 Z = true := wa hw 334 rfl
theorem w335 {Z a0} (hw : HW Z a0) : ((Cond.code mn61 jdk_65_method_131_code 2 (Option.none : Option Jvm.ClassFile.FieldType))).before a0 Z = true := wa hw 335 rfl
theorem w336 {Z a0} (hw : HW Z a0) : ((Cond.methodLink "java/util/Arrays" 304 mn1)).before a0 Z = true := wa hw 336 rfl
theorem w337 {Z a0} (hw : HW Z a0) : ((Cond.methodLink "java/util/Arrays" 150 ⟨"java/lang/System", "arraycopy", "(Ljava/lang/Object;ILjava/lang/Object;II)V"⟩)).before a0 Z = true := wa hw 337 rfl
theorem w338 {Z a0} (hw : HW Z a0) : ((Cond.static ⟨"java/lang/System", "arraycopy", "(Ljava/lang/Object;ILjava/lang/Object;II)V"⟩)).before a0 Z = true := wa hw 338 rfl
theorem w339 {Z a0} (hw : HW Z a0) : ((Cond.initialized "java/lang/System")).before a0 Z = true := wa hw 339 rfl
theorem w340 {Z a0} (hw : HW Z a0) : ((Cond.native ⟨"java/lang/System", "arraycopy", "(Ljava/lang/Object;ILjava/lang/Object;II)V"⟩)).before a0 Z = true := wa hw 340 rfl
theorem w341 {Z a0} (hw : HW Z a0) : ((Cond.methodLink s3 37 mn64)).before a0 Z = true := wa hw 341 rfl
theorem w342 {Z a0} (hw : HW Z a0) : ((Cond.static mn64)).before a0 Z = true := wa hw 342 rfl
theorem w343 {Z a0} (hw : HW Z a0) : ((Cond.code mn64 jdk_65_method_103_code 4 (Option.none : Option Jvm.ClassFile.FieldType))).before a0 Z = true := wa hw 343 rfl
theorem w344 {Z a0} (hw : HW Z a0) : ((Cond.constantLong "com/example/harbinger/harbinger/BackoffFailedPinLaw" 11 (8 : Int64))).before a0 Z = true := wa hw 344 rfl
theorem w345 {Z a0} (hw : HW Z a0) : ((Cond.constantLong "com/example/harbinger/harbinger/BackoffFailedPinLaw" 13 (10 : Int64))).before a0 Z = true := wa hw 345 rfl
theorem w346 {Z a0} (hw : HW Z a0) : ((Cond.methodLink "com/example/harbinger/harbinger/BackoffFailedPinLaw" 42 mn65)).before a0 Z = true := wa hw 346 rfl
theorem w347 {Z a0} (hw : HW Z a0) : ((Cond.declares mn65)).before a0 Z = true := wa hw 347 rfl
theorem w348 {Z a0} (hw : HW Z a0) : ((Cond.instanceMethod mn65)).before a0 Z = true := wa hw 348 rfl
theorem w349 {Z a0} (hw : HW Z a0) : ((Cond.selects s6 mn65 mn65)).before a0 Z = true := wa hw 349 rfl
theorem w350 {Z a0} (hw : HW Z a0) : ((Cond.code mn65 prog_3_method_4_code 1 (Option.none : Option Jvm.ClassFile.FieldType))).before a0 Z = true := wa hw 350 rfl
theorem d1_0 : dc c0_ 0 (.aload_n 0) 1 := by decide +kernel
theorem d1_1 : dc c0_ 1 (.invokespecial 1) 3 := by decide +kernel
theorem d1_4 : dc c0_ 4 (.return_) 1 := by decide +kernel
theorem d3_0 : dc c1_ 0 (.aload_n 0) 1 := by decide +kernel
theorem d3_1 : dc c1_ 1 (.dup) 1 := by decide +kernel
theorem d3_2 : dc c1_ 2 (.getfield 41) 3 := by decide +kernel
theorem d3_5 : dc c1_ 5 (.iconst 1) 1 := by decide +kernel
theorem d3_6 : dc c1_ 6 (.iadd) 1 := by decide +kernel
theorem d3_7 : dc c1_ 7 (.putfield 41) 3 := by decide +kernel
theorem d3_10 : dc c1_ 10 (.aload_n 0) 1 := by decide +kernel
theorem d3_11 : dc c1_ 11 (.getfield 41) 3 := by decide +kernel
theorem d3_14 : dc c1_ 14 (.invokestatic 45) 3 := by decide +kernel
theorem d3_17 : dc c1_ 17 (.areturn) 1 := by decide +kernel
theorem d4_0 : dc c2_ 0 (.iload_n 0) 1 := by decide +kernel
theorem d4_1 : dc c2_ 1 (.iconst 1) 1 := by decide +kernel
theorem d4_2 : dc c2_ 2 (.if_icmp .ge 17) 3 := by decide +kernel
theorem d4_19 : dc c2_ 19 (.getstatic 16) 3 := by decide +kernel
theorem d4_22 : dc c2_ 22 (.lconst 1) 1 := by decide +kernel
theorem d4_23 : dc c2_ 23 (.iload_n 0) 1 := by decide +kernel
theorem d4_24 : dc c2_ 24 (.iconst 1) 1 := by decide +kernel
theorem d4_25 : dc c2_ 25 (.isub) 1 := by decide +kernel
theorem d4_26 : dc c2_ 26 (.iconst 4) 1 := by decide +kernel
theorem d4_27 : dc c2_ 27 (.invokestatic 22) 3 := by decide +kernel
theorem d4_30 : dc c2_ 30 (.lshl) 1 := by decide +kernel
theorem d4_31 : dc c2_ 31 (.invokevirtual 28) 3 := by decide +kernel
theorem d4_34 : dc c2_ 34 (.astore_n 1) 1 := by decide +kernel
theorem d4_35 : dc c2_ 35 (.aload_n 1) 1 := by decide +kernel
theorem d4_36 : dc c2_ 36 (.getstatic 34) 3 := by decide +kernel
theorem d4_39 : dc c2_ 39 (.invokevirtual 37) 3 := by decide +kernel
theorem d4_42 : dc c2_ 42 (.ifCond .ge 7) 3 := by decide +kernel
theorem d4_45 : dc c2_ 45 (.aload_n 1) 1 := by decide +kernel
theorem d4_46 : dc c2_ 46 (.goto 6) 3 := by decide +kernel
theorem d4_49 : dc c2_ 49 (.getstatic 34) 3 := by decide +kernel
theorem d4_52 : dc c2_ 52 (.areturn) 1 := by decide +kernel
theorem d5_0 : dc c3_ 0 (.iload_n 0) 1 := by decide +kernel
theorem d5_1 : dc c3_ 1 (.iload_n 1) 1 := by decide +kernel
theorem d5_2 : dc c3_ 2 (.if_icmp .gt 7) 3 := by decide +kernel
theorem d5_5 : dc c3_ 5 (.iload_n 0) 1 := by decide +kernel
theorem d5_6 : dc c3_ 6 (.goto 4) 3 := by decide +kernel
theorem d5_9 : dc c3_ 9 (.iload_n 1) 1 := by decide +kernel
theorem d5_10 : dc c3_ 10 (.ireturn) 1 := by decide +kernel
theorem d6_0 : dc c4_ 0 (.lload_n 1) 1 := by decide +kernel
theorem d6_1 : dc c4_ 1 (.lconst 0) 1 := by decide +kernel
theorem d6_2 : dc c4_ 2 (.lcmp) 1 := by decide +kernel
theorem d6_3 : dc c4_ 3 (.ifCond .ne 7) 3 := by decide +kernel
theorem d6_10 : dc c4_ 10 (.lload_n 1) 1 := by decide +kernel
theorem d6_11 : dc c4_ 11 (.lconst 1) 1 := by decide +kernel
theorem d6_12 : dc c4_ 12 (.lcmp) 1 := by decide +kernel
theorem d6_13 : dc c4_ 13 (.ifCond .ne 5) 3 := by decide +kernel
theorem d6_16 : dc c4_ 16 (.aload_n 0) 1 := by decide +kernel
theorem d6_17 : dc c4_ 17 (.areturn) 1 := by decide +kernel
theorem d6_18 : dc c4_ 18 (.aload_n 0) 1 := by decide +kernel
theorem d6_19 : dc c4_ 19 (.invokevirtual 309) 3 := by decide +kernel
theorem d6_22 : dc c4_ 22 (.lload_n 1) 1 := by decide +kernel
theorem d6_23 : dc c4_ 23 (.invokestatic 313) 3 := by decide +kernel
theorem d6_26 : dc c4_ 26 (.invokevirtual 319) 3 := by decide +kernel
theorem d6_29 : dc c4_ 29 (.invokestatic 323) 3 := by decide +kernel
theorem d6_32 : dc c4_ 32 (.areturn) 1 := by decide +kernel
theorem d7_0 : dc c5_ 0 (.aload_n 0) 1 := by decide +kernel
theorem d7_1 : dc c5_ 1 (.getfield 221) 3 := by decide +kernel
theorem d7_4 : dc c5_ 4 (.aload_n 1) 1 := by decide +kernel
theorem d7_5 : dc c5_ 5 (.getfield 221) 3 := by decide +kernel
theorem d7_8 : dc c5_ 8 (.invokestatic 416) 3 := by decide +kernel
theorem d7_11 : dc c5_ 11 (.istore_n 2) 1 := by decide +kernel
theorem d7_12 : dc c5_ 12 (.iload_n 2) 1 := by decide +kernel
theorem d7_13 : dc c5_ 13 (.ifCond .eq 5) 3 := by decide +kernel
theorem d7_16 : dc c5_ 16 (.iload_n 2) 1 := by decide +kernel
theorem d7_17 : dc c5_ 17 (.ireturn) 1 := by decide +kernel
theorem d8_0 : dc c6_ 0 (.lload_n 0) 1 := by decide +kernel
theorem d8_1 : dc c6_ 1 (.lload_n 2) 1 := by decide +kernel
theorem d8_2 : dc c6_ 2 (.lcmp) 1 := by decide +kernel
theorem d8_3 : dc c6_ 3 (.ifCond .ge 7) 3 := by decide +kernel
theorem d8_6 : dc c6_ 6 (.iconst (-1)) 1 := by decide +kernel
theorem d8_7 : dc c6_ 7 (.goto 14) 3 := by decide +kernel
theorem d8_10 : dc c6_ 10 (.lload_n 0) 1 := by decide +kernel
theorem d8_11 : dc c6_ 11 (.lload_n 2) 1 := by decide +kernel
theorem d8_12 : dc c6_ 12 (.lcmp) 1 := by decide +kernel
theorem d8_13 : dc c6_ 13 (.ifCond .ne 7) 3 := by decide +kernel
theorem d8_20 : dc c6_ 20 (.iconst 1) 1 := by decide +kernel
theorem d8_21 : dc c6_ 21 (.ireturn) 1 := by decide +kernel
theorem d9_0 : dc c7_ 0 (.aload_n 0) 1 := by decide +kernel
theorem d9_1 : dc c7_ 1 (.ifnull 26) 3 := by decide +kernel
theorem d9_4 : dc c7_ 4 (.aload_n 0) 1 := by decide +kernel
theorem d9_5 : dc c7_ 5 (.invokevirtual 15) 3 := by decide +kernel
theorem d9_8 : dc c7_ 8 (.iload_n 1) 1 := by decide +kernel
theorem d9_9 : dc c7_ 9 (.invokestatic 21) 3 := by decide +kernel
theorem d9_12 : dc c7_ 12 (.lcmp) 1 := by decide +kernel
theorem d9_13 : dc c7_ 13 (.ifCond .ne 14) 3 := by decide +kernel
theorem d9_16 : dc c7_ 16 (.aload_n 0) 1 := by decide +kernel
theorem d9_17 : dc c7_ 17 (.invokevirtual 27) 3 := by decide +kernel
theorem d9_20 : dc c7_ 20 (.ifCond .ne 7) 3 := by decide +kernel
theorem d9_23 : dc c7_ 23 (.iconst 1) 1 := by decide +kernel
theorem d9_24 : dc c7_ 24 (.goto 4) 3 := by decide +kernel
theorem d9_28 : dc c7_ 28 (.ireturn) 1 := by decide +kernel
theorem d10_0 : dc c8_ 0 (.aload_n 0) 1 := by decide +kernel
theorem d10_1 : dc c8_ 1 (.getfield 221) 3 := by decide +kernel
theorem d10_4 : dc c8_ 4 (.lreturn) 1 := by decide +kernel
theorem d11_0 : dc c9_ 0 (.iload_n 0) 1 := by decide +kernel
theorem d11_1 : dc c9_ 1 (.iconst 1) 1 := by decide +kernel
theorem d11_2 : dc c9_ 2 (.if_icmp .ne 5) 3 := by decide +kernel
theorem d11_5 : dc c9_ 5 (.lconst 1) 1 := by decide +kernel
theorem d11_6 : dc c9_ 6 (.lreturn) 1 := by decide +kernel
theorem d11_7 : dc c9_ 7 (.iload_n 0) 1 := by decide +kernel
theorem d11_8 : dc c9_ 8 (.iconst 2) 1 := by decide +kernel
theorem d11_9 : dc c9_ 9 (.if_icmp .ne 7) 3 := by decide +kernel
theorem d11_12 : dc c9_ 12 (.ldc2_w 7) 3 := by decide +kernel
theorem d11_15 : dc c9_ 15 (.lreturn) 1 := by decide +kernel
theorem d11_16 : dc c9_ 16 (.iload_n 0) 1 := by decide +kernel
theorem d11_17 : dc c9_ 17 (.iconst 3) 1 := by decide +kernel
theorem d11_18 : dc c9_ 18 (.if_icmp .ne 7) 3 := by decide +kernel
theorem d11_21 : dc c9_ 21 (.ldc2_w 9) 3 := by decide +kernel
theorem d11_24 : dc c9_ 24 (.lreturn) 1 := by decide +kernel
theorem d11_25 : dc c9_ 25 (.iload_n 0) 1 := by decide +kernel
theorem d11_26 : dc c9_ 26 (.iconst 4) 1 := by decide +kernel
theorem d11_27 : dc c9_ 27 (.if_icmp .ne 7) 3 := by decide +kernel
theorem d11_30 : dc c9_ 30 (.ldc2_w 11) 3 := by decide +kernel
theorem d11_33 : dc c9_ 33 (.lreturn) 1 := by decide +kernel
theorem d11_34 : dc c9_ 34 (.ldc2_w 13) 3 := by decide +kernel
theorem d11_37 : dc c9_ 37 (.lreturn) 1 := by decide +kernel
theorem d12_0 : dc c10_ 0 (.aload_n 0) 1 := by decide +kernel
theorem d12_1 : dc c10_ 1 (.getfield 224) 3 := by decide +kernel
theorem d12_4 : dc c10_ 4 (.ireturn) 1 := by decide +kernel
theorem d13_0 : dc c11_ 0 (.aload_n 0) 1 := by decide +kernel
theorem d13_1 : dc c11_ 1 (.getfield 221) 3 := by decide +kernel
theorem d13_4 : dc c11_ 4 (.invokestatic 313) 3 := by decide +kernel
theorem d13_7 : dc c11_ 7 (.aload_n 0) 1 := by decide +kernel
theorem d13_8 : dc c11_ 8 (.getfield 224) 3 := by decide +kernel
theorem d13_11 : dc c11_ 11 (.i2l) 1 := by decide +kernel
theorem d13_12 : dc c11_ 12 (.bipush 9) 2 := by decide +kernel
theorem d13_14 : dc c11_ 14 (.invokestatic 347) 3 := by decide +kernel
theorem d13_17 : dc c11_ 17 (.invokevirtual 350) 3 := by decide +kernel
theorem d13_20 : dc c11_ 20 (.areturn) 1 := by decide +kernel
theorem d14_0 : dc c12_ 0 (.lload_n 0) 1 := by decide +kernel
theorem d14_1 : dc c12_ 1 (.lconst 0) 1 := by decide +kernel
theorem d14_2 : dc c12_ 2 (.lcmp) 1 := by decide +kernel
theorem d14_3 : dc c12_ 3 (.ifCond .lt 20) 3 := by decide +kernel
theorem d14_6 : dc c12_ 6 (.lload_n 0) 1 := by decide +kernel
theorem d14_7 : dc c12_ 7 (.getstatic 246) 3 := by decide +kernel
theorem d14_10 : dc c12_ 10 (.arraylength) 1 := by decide +kernel
theorem d14_11 : dc c12_ 11 (.i2l) 1 := by decide +kernel
theorem d14_12 : dc c12_ 12 (.lcmp) 1 := by decide +kernel
theorem d14_13 : dc c12_ 13 (.ifCond .ge 10) 3 := by decide +kernel
theorem d14_16 : dc c12_ 16 (.getstatic 246) 3 := by decide +kernel
theorem d14_19 : dc c12_ 19 (.lload_n 0) 1 := by decide +kernel
theorem d14_20 : dc c12_ 20 (.l2i) 1 := by decide +kernel
theorem d14_21 : dc c12_ 21 (.aaload) 1 := by decide +kernel
theorem d14_22 : dc c12_ 22 (.areturn) 1 := by decide +kernel
theorem d14_23 : dc c12_ 23 (.lload_n 0) 1 := by decide +kernel
theorem d14_24 : dc c12_ 24 (.ldc2_w 125) 3 := by decide +kernel
theorem d14_27 : dc c12_ 27 (.lcmp) 1 := by decide +kernel
theorem d14_28 : dc c12_ 28 (.ifCond .eq 15) 3 := by decide +kernel
theorem d14_31 : dc c12_ 31 (.new 3) 3 := by decide +kernel
theorem d14_34 : dc c12_ 34 (.dup) 1 := by decide +kernel
theorem d14_35 : dc c12_ 35 (.aconst_null) 1 := by decide +kernel
theorem d14_36 : dc c12_ 36 (.lload_n 0) 1 := by decide +kernel
theorem d14_37 : dc c12_ 37 (.iconst 0) 1 := by decide +kernel
theorem d14_38 : dc c12_ 38 (.iconst 0) 1 := by decide +kernel
theorem d14_39 : dc c12_ 39 (.invokespecial 243) 3 := by decide +kernel
theorem d14_42 : dc c12_ 42 (.areturn) 1 := by decide +kernel
theorem d15_0 : dc c13_ 0 (.iload_n 2) 1 := by decide +kernel
theorem d15_1 : dc c13_ 1 (.ifCond .ne 8) 3 := by decide +kernel
theorem d15_9 : dc c13_ 9 (.lload_n 0) 1 := by decide +kernel
theorem d15_10 : dc c13_ 10 (.lconst 0) 1 := by decide +kernel
theorem d15_11 : dc c13_ 11 (.lcmp) 1 := by decide +kernel
theorem d15_12 : dc c13_ 12 (.ifCond .ne 8) 3 := by decide +kernel
theorem d15_15 : dc c13_ 15 (.iload_n 2) 1 := by decide +kernel
theorem d15_16 : dc c13_ 16 (.invokestatic 239) 3 := by decide +kernel
theorem d15_19 : dc c13_ 19 (.areturn) 1 := by decide +kernel
theorem d15_20 : dc c13_ 20 (.new 3) 3 := by decide +kernel
theorem d15_23 : dc c13_ 23 (.dup) 1 := by decide +kernel
theorem d15_24 : dc c13_ 24 (.lload_n 0) 1 := by decide +kernel
theorem d15_25 : dc c13_ 25 (.ldc2_w 125) 3 := by decide +kernel
theorem d15_28 : dc c13_ 28 (.lcmp) 1 := by decide +kernel
theorem d15_29 : dc c13_ 29 (.ifCond .ne 9) 3 := by decide +kernel
theorem d15_38 : dc c13_ 38 (.aconst_null) 1 := by decide +kernel
theorem d15_39 : dc c13_ 39 (.lload_n 0) 1 := by decide +kernel
theorem d15_40 : dc c13_ 40 (.iload_n 2) 1 := by decide +kernel
theorem d15_41 : dc c13_ 41 (.iconst 0) 1 := by decide +kernel
theorem d15_42 : dc c13_ 42 (.invokespecial 243) 3 := by decide +kernel
theorem d15_45 : dc c13_ 45 (.areturn) 1 := by decide +kernel
theorem d16_0 : dc c14_ 0 (.iload_n 0) 1 := by decide +kernel
theorem d16_1 : dc c14_ 1 (.ifCond .lt 17) 3 := by decide +kernel
theorem d16_4 : dc c14_ 4 (.iload_n 0) 1 := by decide +kernel
theorem d16_5 : dc c14_ 5 (.getstatic 250) 3 := by decide +kernel
theorem d16_8 : dc c14_ 8 (.arraylength) 1 := by decide +kernel
theorem d16_9 : dc c14_ 9 (.if_icmp .ge 9) 3 := by decide +kernel
theorem d16_12 : dc c14_ 12 (.getstatic 250) 3 := by decide +kernel
theorem d16_15 : dc c14_ 15 (.iload_n 0) 1 := by decide +kernel
theorem d16_16 : dc c14_ 16 (.aaload) 1 := by decide +kernel
theorem d16_17 : dc c14_ 17 (.areturn) 1 := by decide +kernel
theorem d17_0 : dc c15_ 0 (.aload_n 0) 1 := by decide +kernel
theorem d17_1 : dc c15_ 1 (.getfield 24) 3 := by decide +kernel
theorem d17_4 : dc c15_ 4 (.ldc2_w 125) 3 := by decide +kernel
theorem d17_7 : dc c15_ 7 (.lcmp) 1 := by decide +kernel
theorem d17_8 : dc c15_ 8 (.ifCond .eq 54) 3 := by decide +kernel
theorem d17_11 : dc c15_ 11 (.aload_n 1) 1 := by decide +kernel
theorem d17_12 : dc c15_ 12 (.getfield 24) 3 := by decide +kernel
theorem d17_15 : dc c15_ 15 (.ldc2_w 125) 3 := by decide +kernel
theorem d17_18 : dc c15_ 18 (.lcmp) 1 := by decide +kernel
theorem d17_19 : dc c15_ 19 (.ifCond .eq 23) 3 := by decide +kernel
theorem d17_22 : dc c15_ 22 (.aload_n 0) 1 := by decide +kernel
theorem d17_23 : dc c15_ 23 (.getfield 24) 3 := by decide +kernel
theorem d17_26 : dc c15_ 26 (.aload_n 0) 1 := by decide +kernel
theorem d17_27 : dc c15_ 27 (.getfield 17) 3 := by decide +kernel
theorem d17_30 : dc c15_ 30 (.aload_n 1) 1 := by decide +kernel
theorem d17_31 : dc c15_ 31 (.getfield 24) 3 := by decide +kernel
theorem d17_34 : dc c15_ 34 (.aload_n 1) 1 := by decide +kernel
theorem d17_35 : dc c15_ 35 (.getfield 17) 3 := by decide +kernel
theorem d17_38 : dc c15_ 38 (.invokestatic 257) 3 := by decide +kernel
theorem d17_41 : dc c15_ 41 (.areturn) 1 := by decide +kernel
theorem d18_0 : dc c16_ 0 (.iload_n 2) 1 := by decide +kernel
theorem d18_1 : dc c16_ 1 (.i2l) 1 := by decide +kernel
theorem d18_2 : dc c16_ 2 (.iload 5) 2 := by decide +kernel
theorem d18_4 : dc c16_ 4 (.i2l) 1 := by decide +kernel
theorem d18_5 : dc c16_ 5 (.lsub) 1 := by decide +kernel
theorem d18_6 : dc c16_ 6 (.lstore 6) 2 := by decide +kernel
theorem d18_8 : dc c16_ 8 (.lload 6) 2 := by decide +kernel
theorem d18_10 : dc c16_ 10 (.lconst 0) 1 := by decide +kernel
theorem d18_11 : dc c16_ 11 (.lcmp) 1 := by decide +kernel
theorem d18_12 : dc c16_ 12 (.ifCond .ne 10) 3 := by decide +kernel
theorem d18_22 : dc c16_ 22 (.lload 6) 2 := by decide +kernel
theorem d18_24 : dc c16_ 24 (.lconst 0) 1 := by decide +kernel
theorem d18_25 : dc c16_ 25 (.lcmp) 1 := by decide +kernel
theorem d18_26 : dc c16_ 26 (.ifCond .ge 85) 3 := by decide +kernel
theorem d18_29 : dc c16_ 29 (.lload_n 0) 1 := by decide +kernel
theorem d18_30 : dc c16_ 30 (.lload 6) 2 := by decide +kernel
theorem d18_32 : dc c16_ 32 (.lneg) 1 := by decide +kernel
theorem d18_33 : dc c16_ 33 (.invokestatic 994) 3 := by decide +kernel
theorem d18_36 : dc c16_ 36 (.istore 8) 2 := by decide +kernel
theorem d18_38 : dc c16_ 38 (.lload_n 0) 1 := by decide +kernel
theorem d18_39 : dc c16_ 39 (.iload 8) 2 := by decide +kernel
theorem d18_41 : dc c16_ 41 (.invokestatic 599) 3 := by decide +kernel
theorem d18_44 : dc c16_ 44 (.lstore 9) 2 := by decide +kernel
theorem d18_46 : dc c16_ 46 (.lload 9) 2 := by decide +kernel
theorem d18_48 : dc c16_ 48 (.ldc2_w 125) 3 := by decide +kernel
theorem d18_51 : dc c16_ 51 (.lcmp) 1 := by decide +kernel
theorem d18_52 : dc c16_ 52 (.ifCond .eq 12) 3 := by decide +kernel
theorem d18_55 : dc c16_ 55 (.lload 9) 2 := by decide +kernel
theorem d18_57 : dc c16_ 57 (.lload_n 3) 1 := by decide +kernel
theorem d18_58 : dc c16_ 58 (.iload 5) 2 := by decide +kernel
theorem d18_60 : dc c16_ 60 (.invokestatic 1000) 3 := by decide +kernel
theorem d18_63 : dc c16_ 63 (.areturn) 1 := by decide +kernel
theorem d19_0 : dc c17_ 0 (.lload_n 2) 1 := by decide +kernel
theorem d19_1 : dc c17_ 1 (.l2i) 1 := by decide +kernel
theorem d19_2 : dc c17_ 2 (.istore 4) 2 := by decide +kernel
theorem d19_4 : dc c17_ 4 (.iload 4) 2 := by decide +kernel
theorem d19_6 : dc c17_ 6 (.i2l) 1 := by decide +kernel
theorem d19_7 : dc c17_ 7 (.lload_n 2) 1 := by decide +kernel
theorem d19_8 : dc c17_ 8 (.lcmp) 1 := by decide +kernel
theorem d19_9 : dc c17_ 9 (.ifCond .eq 50) 3 := by decide +kernel
theorem d19_59 : dc c17_ 59 (.iload 4) 2 := by decide +kernel
theorem d19_61 : dc c17_ 61 (.ireturn) 1 := by decide +kernel
theorem d20_0 : dc c18_ 0 (.lload_n 0) 1 := by decide +kernel
theorem d20_1 : dc c18_ 1 (.lconst 0) 1 := by decide +kernel
theorem d20_2 : dc c18_ 2 (.lcmp) 1 := by decide +kernel
theorem d20_3 : dc c18_ 3 (.ifCond .eq 7) 3 := by decide +kernel
theorem d20_6 : dc c18_ 6 (.iload_n 2) 1 := by decide +kernel
theorem d20_7 : dc c18_ 7 (.ifCond .gt 5) 3 := by decide +kernel
theorem d20_12 : dc c18_ 12 (.getstatic 95) 3 := by decide +kernel
theorem d20_15 : dc c18_ 15 (.astore_n 3) 1 := by decide +kernel
theorem d20_16 : dc c18_ 16 (.getstatic 825) 3 := by decide +kernel
theorem d20_19 : dc c18_ 19 (.astore 4) 2 := by decide +kernel
theorem d20_21 : dc c18_ 21 (.iload_n 2) 1 := by decide +kernel
theorem d20_22 : dc c18_ 22 (.aload_n 3) 1 := by decide +kernel
theorem d20_23 : dc c18_ 23 (.arraylength) 1 := by decide +kernel
theorem d20_24 : dc c18_ 24 (.if_icmp .ge 41) 3 := by decide +kernel
theorem d20_27 : dc c18_ 27 (.iload_n 2) 1 := by decide +kernel
theorem d20_28 : dc c18_ 28 (.aload 4) 2 := by decide +kernel
theorem d20_30 : dc c18_ 30 (.arraylength) 1 := by decide +kernel
theorem d20_31 : dc c18_ 31 (.if_icmp .ge 34) 3 := by decide +kernel
theorem d20_34 : dc c18_ 34 (.aload_n 3) 1 := by decide +kernel
theorem d20_35 : dc c18_ 35 (.iload_n 2) 1 := by decide +kernel
theorem d20_36 : dc c18_ 36 (.laload) 1 := by decide +kernel
theorem d20_37 : dc c18_ 37 (.lstore 5) 2 := by decide +kernel
theorem d20_39 : dc c18_ 39 (.lload_n 0) 1 := by decide +kernel
theorem d20_40 : dc c18_ 40 (.lconst 1) 1 := by decide +kernel
theorem d20_41 : dc c18_ 41 (.lcmp) 1 := by decide +kernel
theorem d20_42 : dc c18_ 42 (.ifCond .ne 6) 3 := by decide +kernel
theorem d20_45 : dc c18_ 45 (.lload 5) 2 := by decide +kernel
theorem d20_47 : dc c18_ 47 (.lreturn) 1 := by decide +kernel
theorem d21_0 : dc c19_ 0 (.lload_n 0) 1 := by decide +kernel
theorem d21_1 : dc c19_ 1 (.lload_n 2) 1 := by decide +kernel
theorem d21_2 : dc c19_ 2 (.invokestatic 996) 3 := by decide +kernel
theorem d21_5 : dc c19_ 5 (.lstore 5) 2 := by decide +kernel
theorem d21_7 : dc c19_ 7 (.lload 5) 2 := by decide +kernel
theorem d21_9 : dc c19_ 9 (.ldc2_w 125) 3 := by decide +kernel
theorem d21_12 : dc c19_ 12 (.lcmp) 1 := by decide +kernel
theorem d21_13 : dc c19_ 13 (.ifCond .eq 11) 3 := by decide +kernel
theorem d21_16 : dc c19_ 16 (.lload 5) 2 := by decide +kernel
theorem d21_18 : dc c19_ 18 (.iload 4) 2 := by decide +kernel
theorem d21_20 : dc c19_ 20 (.invokestatic 328) 3 := by decide +kernel
theorem d21_23 : dc c19_ 23 (.areturn) 1 := by decide +kernel
theorem d22_0 : dc c20_ 0 (.lload_n 0) 1 := by decide +kernel
theorem d22_1 : dc c20_ 1 (.lload_n 2) 1 := by decide +kernel
theorem d22_2 : dc c20_ 2 (.ladd) 1 := by decide +kernel
theorem d22_3 : dc c20_ 3 (.lstore 4) 2 := by decide +kernel
theorem d22_5 : dc c20_ 5 (.lload 4) 2 := by decide +kernel
theorem d22_7 : dc c20_ 7 (.lload_n 0) 1 := by decide +kernel
theorem d22_8 : dc c20_ 8 (.lxor) 1 := by decide +kernel
theorem d22_9 : dc c20_ 9 (.lload 4) 2 := by decide +kernel
theorem d22_11 : dc c20_ 11 (.lload_n 2) 1 := by decide +kernel
theorem d22_12 : dc c20_ 12 (.lxor) 1 := by decide +kernel
theorem d22_13 : dc c20_ 13 (.land) 1 := by decide +kernel
theorem d22_14 : dc c20_ 14 (.lconst 0) 1 := by decide +kernel
theorem d22_15 : dc c20_ 15 (.lcmp) 1 := by decide +kernel
theorem d22_16 : dc c20_ 16 (.ifCond .lt 6) 3 := by decide +kernel
theorem d22_19 : dc c20_ 19 (.lload 4) 2 := by decide +kernel
theorem d22_21 : dc c20_ 21 (.lreturn) 1 := by decide +kernel
theorem d23_0 : dc c21_ 0 (.aload_n 0) 1 := by decide +kernel
theorem d23_1 : dc c21_ 1 (.invokespecial 11) 3 := by decide +kernel
theorem d23_4 : dc c21_ 4 (.aload_n 0) 1 := by decide +kernel
theorem d23_5 : dc c21_ 5 (.iload 4) 2 := by decide +kernel
theorem d23_7 : dc c21_ 7 (.putfield 17) 3 := by decide +kernel
theorem d23_10 : dc c21_ 10 (.aload_n 0) 1 := by decide +kernel
theorem d23_11 : dc c21_ 11 (.iload 5) 2 := by decide +kernel
theorem d23_13 : dc c21_ 13 (.putfield 21) 3 := by decide +kernel
theorem d23_16 : dc c21_ 16 (.aload_n 0) 1 := by decide +kernel
theorem d23_17 : dc c21_ 17 (.lload_n 2) 1 := by decide +kernel
theorem d23_18 : dc c21_ 18 (.putfield 24) 3 := by decide +kernel
theorem d23_21 : dc c21_ 21 (.aload_n 0) 1 := by decide +kernel
theorem d23_22 : dc c21_ 22 (.aload_n 1) 1 := by decide +kernel
theorem d23_23 : dc c21_ 23 (.putfield 28) 3 := by decide +kernel
theorem d23_26 : dc c21_ 26 (.return_) 1 := by decide +kernel
theorem d24_0 : dc c22_ 0 (.aload_n 0) 1 := by decide +kernel
theorem d24_1 : dc c22_ 1 (.invokespecial 1) 3 := by decide +kernel
theorem d24_4 : dc c22_ 4 (.return_) 1 := by decide +kernel
theorem d25_0 : dc c23_ 0 (.aload_n 0) 1 := by decide +kernel
theorem d25_1 : dc c23_ 1 (.aload_n 0) 1 := by decide +kernel
theorem d25_2 : dc c23_ 2 (.getfield 17) 3 := by decide +kernel
theorem d25_5 : dc c23_ 5 (.i2l) 1 := by decide +kernel
theorem d25_6 : dc c23_ 6 (.aload_n 1) 1 := by decide +kernel
theorem d25_7 : dc c23_ 7 (.getfield 17) 3 := by decide +kernel
theorem d25_10 : dc c23_ 10 (.i2l) 1 := by decide +kernel
theorem d25_11 : dc c23_ 11 (.ladd) 1 := by decide +kernel
theorem d25_12 : dc c23_ 12 (.invokevirtual 325) 3 := by decide +kernel
theorem d25_15 : dc c23_ 15 (.istore_n 2) 1 := by decide +kernel
theorem d25_16 : dc c23_ 16 (.aload_n 0) 1 := by decide +kernel
theorem d25_17 : dc c23_ 17 (.getfield 24) 3 := by decide +kernel
theorem d25_20 : dc c23_ 20 (.ldc2_w 125) 3 := by decide +kernel
theorem d25_23 : dc c23_ 23 (.lcmp) 1 := by decide +kernel
theorem d25_24 : dc c23_ 24 (.ifCond .eq 40) 3 := by decide +kernel
theorem d25_27 : dc c23_ 27 (.aload_n 1) 1 := by decide +kernel
theorem d25_28 : dc c23_ 28 (.getfield 24) 3 := by decide +kernel
theorem d25_31 : dc c23_ 31 (.ldc2_w 125) 3 := by decide +kernel
theorem d25_34 : dc c23_ 34 (.lcmp) 1 := by decide +kernel
theorem d25_35 : dc c23_ 35 (.ifCond .eq 16) 3 := by decide +kernel
theorem d25_38 : dc c23_ 38 (.aload_n 0) 1 := by decide +kernel
theorem d25_39 : dc c23_ 39 (.getfield 24) 3 := by decide +kernel
theorem d25_42 : dc c23_ 42 (.aload_n 1) 1 := by decide +kernel
theorem d25_43 : dc c23_ 43 (.getfield 24) 3 := by decide +kernel
theorem d25_46 : dc c23_ 46 (.iload_n 2) 1 := by decide +kernel
theorem d25_47 : dc c23_ 47 (.invokestatic 342) 3 := by decide +kernel
theorem d25_50 : dc c23_ 50 (.areturn) 1 := by decide +kernel
theorem d26_0 : dc c24_ 0 (.lload_n 1) 1 := by decide +kernel
theorem d26_1 : dc c24_ 1 (.l2i) 1 := by decide +kernel
theorem d26_2 : dc c24_ 2 (.istore_n 3) 1 := by decide +kernel
theorem d26_3 : dc c24_ 3 (.iload_n 3) 1 := by decide +kernel
theorem d26_4 : dc c24_ 4 (.i2l) 1 := by decide +kernel
theorem d26_5 : dc c24_ 5 (.lload_n 1) 1 := by decide +kernel
theorem d26_6 : dc c24_ 6 (.lcmp) 1 := by decide +kernel
theorem d26_7 : dc c24_ 7 (.ifCond .eq 69) 3 := by decide +kernel
theorem d26_76 : dc c24_ 76 (.iload_n 3) 1 := by decide +kernel
theorem d26_77 : dc c24_ 77 (.ireturn) 1 := by decide +kernel
theorem d27_0 : dc c25_ 0 (.lload_n 0) 1 := by decide +kernel
theorem d27_1 : dc c25_ 1 (.lload_n 2) 1 := by decide +kernel
theorem d27_2 : dc c25_ 2 (.invokestatic 1055) 3 := by decide +kernel
theorem d27_5 : dc c25_ 5 (.lstore 5) 2 := by decide +kernel
theorem d27_7 : dc c25_ 7 (.lload 5) 2 := by decide +kernel
theorem d27_9 : dc c25_ 9 (.ldc2_w 125) 3 := by decide +kernel
theorem d27_12 : dc c25_ 12 (.lcmp) 1 := by decide +kernel
theorem d27_13 : dc c25_ 13 (.ifCond .eq 11) 3 := by decide +kernel
theorem d27_16 : dc c25_ 16 (.lload 5) 2 := by decide +kernel
theorem d27_18 : dc c25_ 18 (.iload 4) 2 := by decide +kernel
theorem d27_20 : dc c25_ 20 (.invokestatic 328) 3 := by decide +kernel
theorem d27_23 : dc c25_ 23 (.areturn) 1 := by decide +kernel
theorem d28_0 : dc c26_ 0 (.lload_n 0) 1 := by decide +kernel
theorem d28_1 : dc c26_ 1 (.lload_n 2) 1 := by decide +kernel
theorem d28_2 : dc c26_ 2 (.lmul) 1 := by decide +kernel
theorem d28_3 : dc c26_ 3 (.lstore 4) 2 := by decide +kernel
theorem d28_5 : dc c26_ 5 (.lload_n 0) 1 := by decide +kernel
theorem d28_6 : dc c26_ 6 (.invokestatic 440) 3 := by decide +kernel
theorem d28_9 : dc c26_ 9 (.lstore 6) 2 := by decide +kernel
theorem d28_11 : dc c26_ 11 (.lload_n 2) 1 := by decide +kernel
theorem d28_12 : dc c26_ 12 (.invokestatic 440) 3 := by decide +kernel
theorem d28_15 : dc c26_ 15 (.lstore 8) 2 := by decide +kernel
theorem d28_17 : dc c26_ 17 (.lload 6) 2 := by decide +kernel
theorem d28_19 : dc c26_ 19 (.lload 8) 2 := by decide +kernel
theorem d28_21 : dc c26_ 21 (.lor) 1 := by decide +kernel
theorem d28_22 : dc c26_ 22 (.bipush 31) 2 := by decide +kernel
theorem d28_24 : dc c26_ 24 (.lushr) 1 := by decide +kernel
theorem d28_25 : dc c26_ 25 (.lconst 0) 1 := by decide +kernel
theorem d28_26 : dc c26_ 26 (.lcmp) 1 := by decide +kernel
theorem d28_27 : dc c26_ 27 (.ifCond .eq 18) 3 := by decide +kernel
theorem d28_45 : dc c26_ 45 (.lload 4) 2 := by decide +kernel
theorem d28_47 : dc c26_ 47 (.lreturn) 1 := by decide +kernel
theorem d29_0 : dc c27_ 0 (.lload_n 0) 1 := by decide +kernel
theorem d29_1 : dc c27_ 1 (.lconst 0) 1 := by decide +kernel
theorem d29_2 : dc c27_ 2 (.lcmp) 1 := by decide +kernel
theorem d29_3 : dc c27_ 3 (.ifCond .ge 8) 3 := by decide +kernel
theorem d29_11 : dc c27_ 11 (.lload_n 0) 1 := by decide +kernel
theorem d29_12 : dc c27_ 12 (.lreturn) 1 := by decide +kernel
theorem d30_0 : dc c28_ 0 (.aload_n 0) 1 := by decide +kernel
theorem d30_1 : dc c28_ 1 (.bipush 9) 2 := by decide +kernel
theorem d30_3 : dc c28_ 3 (.invokevirtual 353) 3 := by decide +kernel
theorem d30_6 : dc c28_ 6 (.invokevirtual 357) 3 := by decide +kernel
theorem d30_9 : dc c28_ 9 (.astore_n 1) 1 := by decide +kernel
theorem d30_10 : dc c28_ 10 (.aload_n 1) 1 := by decide +kernel
theorem d30_11 : dc c28_ 11 (.getstatic 361) 3 := by decide +kernel
theorem d30_14 : dc c28_ 14 (.invokevirtual 365) 3 := by decide +kernel
theorem d30_17 : dc c28_ 17 (.astore_n 2) 1 := by decide +kernel
theorem d30_18 : dc c28_ 18 (.aload_n 2) 1 := by decide +kernel
theorem d30_19 : dc c28_ 19 (.iconst 0) 1 := by decide +kernel
theorem d30_20 : dc c28_ 20 (.aaload) 1 := by decide +kernel
theorem d30_21 : dc c28_ 21 (.invokevirtual 371) 3 := by decide +kernel
theorem d30_24 : dc c28_ 24 (.bipush 63) 2 := by decide +kernel
theorem d30_26 : dc c28_ 26 (.if_icmp .le 31) 3 := by decide +kernel
theorem d30_57 : dc c28_ 57 (.aload_n 2) 1 := by decide +kernel
theorem d30_58 : dc c28_ 58 (.iconst 0) 1 := by decide +kernel
theorem d30_59 : dc c28_ 59 (.aaload) 1 := by decide +kernel
theorem d30_60 : dc c28_ 60 (.invokevirtual 376) 3 := by decide +kernel
theorem d30_63 : dc c28_ 63 (.aload_n 2) 1 := by decide +kernel
theorem d30_64 : dc c28_ 64 (.iconst 1) 1 := by decide +kernel
theorem d30_65 : dc c28_ 65 (.aaload) 1 := by decide +kernel
theorem d30_66 : dc c28_ 66 (.invokevirtual 379) 3 := by decide +kernel
theorem d30_69 : dc c28_ 69 (.i2l) 1 := by decide +kernel
theorem d30_70 : dc c28_ 70 (.invokestatic 176) 3 := by decide +kernel
theorem d30_73 : dc c28_ 73 (.areturn) 1 := by decide +kernel
theorem d31_0 : dc c29_ 0 (.iload_n 1) 1 := by decide +kernel
theorem d31_1 : dc c29_ 1 (.ifCond .ne 12) 3 := by decide +kernel
theorem d31_13 : dc c29_ 13 (.aload_n 0) 1 := by decide +kernel
theorem d31_14 : dc c29_ 14 (.aload_n 0) 1 := by decide +kernel
theorem d31_15 : dc c29_ 15 (.getfield 17) 3 := by decide +kernel
theorem d31_18 : dc c29_ 18 (.i2l) 1 := by decide +kernel
theorem d31_19 : dc c29_ 19 (.iload_n 1) 1 := by decide +kernel
theorem d31_20 : dc c29_ 20 (.i2l) 1 := by decide +kernel
theorem d31_21 : dc c29_ 21 (.lsub) 1 := by decide +kernel
theorem d31_22 : dc c29_ 22 (.invokevirtual 325) 3 := by decide +kernel
theorem d31_25 : dc c29_ 25 (.istore_n 2) 1 := by decide +kernel
theorem d31_26 : dc c29_ 26 (.new 3) 3 := by decide +kernel
theorem d31_29 : dc c29_ 29 (.dup) 1 := by decide +kernel
theorem d31_30 : dc c29_ 30 (.aload_n 0) 1 := by decide +kernel
theorem d31_31 : dc c29_ 31 (.getfield 28) 3 := by decide +kernel
theorem d31_34 : dc c29_ 34 (.aload_n 0) 1 := by decide +kernel
theorem d31_35 : dc c29_ 35 (.getfield 24) 3 := by decide +kernel
theorem d31_38 : dc c29_ 38 (.iload_n 2) 1 := by decide +kernel
theorem d31_39 : dc c29_ 39 (.iconst 0) 1 := by decide +kernel
theorem d31_40 : dc c29_ 40 (.invokespecial 243) 3 := by decide +kernel
theorem d31_43 : dc c29_ 43 (.astore_n 3) 1 := by decide +kernel
theorem d31_44 : dc c29_ 44 (.aload_n 3) 1 := by decide +kernel
theorem d31_45 : dc c29_ 45 (.getfield 17) 3 := by decide +kernel
theorem d31_48 : dc c29_ 48 (.ifCond .ge 13) 3 := by decide +kernel
theorem d31_61 : dc c29_ 61 (.aload_n 3) 1 := by decide +kernel
theorem d31_62 : dc c29_ 62 (.areturn) 1 := by decide +kernel
theorem d32_0 : dc c30_ 0 (.aload_n 0) 1 := by decide +kernel
theorem d32_1 : dc c30_ 1 (.iconst 0) 1 := by decide +kernel
theorem d32_2 : dc c30_ 2 (.bipush 7) 2 := by decide +kernel
theorem d32_4 : dc c30_ 4 (.invokevirtual 419) 3 := by decide +kernel
theorem d32_7 : dc c30_ 7 (.invokevirtual 302) 3 := by decide +kernel
theorem d32_10 : dc c30_ 10 (.areturn) 1 := by decide +kernel
theorem d33_0 : dc c31_ 0 (.iload_n 2) 1 := by decide +kernel
theorem d33_1 : dc c31_ 1 (.ifCond .lt 9) 3 := by decide +kernel
theorem d33_4 : dc c31_ 4 (.iload_n 2) 1 := by decide +kernel
theorem d33_5 : dc c31_ 5 (.bipush 7) 2 := by decide +kernel
theorem d33_7 : dc c31_ 7 (.if_icmp .le 14) 3 := by decide +kernel
theorem d33_21 : dc c31_ 21 (.aload_n 0) 1 := by decide +kernel
theorem d33_22 : dc c31_ 22 (.getfield 17) 3 := by decide +kernel
theorem d33_25 : dc c31_ 25 (.istore_n 3) 1 := by decide +kernel
theorem d33_26 : dc c31_ 26 (.iload_n 1) 1 := by decide +kernel
theorem d33_27 : dc c31_ 27 (.iload_n 3) 1 := by decide +kernel
theorem d33_28 : dc c31_ 28 (.if_icmp .ne 5) 3 := by decide +kernel
theorem d33_31 : dc c31_ 31 (.aload_n 0) 1 := by decide +kernel
theorem d33_32 : dc c31_ 32 (.areturn) 1 := by decide +kernel
theorem d34_0 : dc c32_ 0 (.aload_n 0) 1 := by decide +kernel
theorem d34_1 : dc c32_ 1 (.getfield 28) 3 := by decide +kernel
theorem d34_4 : dc c32_ 4 (.ifnonnull 11) 3 := by decide +kernel
theorem d34_7 : dc c32_ 7 (.aload_n 0) 1 := by decide +kernel
theorem d34_8 : dc c32_ 8 (.getfield 24) 3 := by decide +kernel
theorem d34_11 : dc c32_ 11 (.invokestatic 193) 3 := by decide +kernel
theorem d34_14 : dc c32_ 14 (.areturn) 1 := by decide +kernel
theorem d35_0 : dc c33_ 0 (.lload_n 0) 1 := by decide +kernel
theorem d35_1 : dc c33_ 1 (.lconst 0) 1 := by decide +kernel
theorem d35_2 : dc c33_ 2 (.lcmp) 1 := by decide +kernel
theorem d35_3 : dc c33_ 3 (.ifCond .ne 7) 3 := by decide +kernel
theorem d35_10 : dc c33_ 10 (.lload_n 0) 1 := by decide +kernel
theorem d35_11 : dc c33_ 11 (.lconst 0) 1 := by decide +kernel
theorem d35_12 : dc c33_ 12 (.lcmp) 1 := by decide +kernel
theorem d35_13 : dc c33_ 13 (.ifCond .le 18) 3 := by decide +kernel
theorem d35_16 : dc c33_ 16 (.lload_n 0) 1 := by decide +kernel
theorem d35_17 : dc c33_ 17 (.ldc2_w 345) 3 := by decide +kernel
theorem d35_20 : dc c33_ 20 (.lcmp) 1 := by decide +kernel
theorem d35_21 : dc c33_ 21 (.ifCond .gt 10) 3 := by decide +kernel
theorem d35_31 : dc c33_ 31 (.lload_n 0) 1 := by decide +kernel
theorem d35_32 : dc c33_ 32 (.lconst 0) 1 := by decide +kernel
theorem d35_33 : dc c33_ 33 (.lcmp) 1 := by decide +kernel
theorem d35_34 : dc c33_ 34 (.ifCond .ge 19) 3 := by decide +kernel
theorem d35_53 : dc c33_ 53 (.new 23) 3 := by decide +kernel
theorem d35_56 : dc c33_ 56 (.dup) 1 := by decide +kernel
theorem d35_57 : dc c33_ 57 (.lload_n 0) 1 := by decide +kernel
theorem d35_58 : dc c33_ 58 (.invokespecial 356) 3 := by decide +kernel
theorem d35_61 : dc c33_ 61 (.areturn) 1 := by decide +kernel
theorem d36_0 : dc c34_ 0 (.aload_n 0) 1 := by decide +kernel
theorem d36_1 : dc c34_ 1 (.invokespecial 3) 3 := by decide +kernel
theorem d36_4 : dc c34_ 4 (.lload_n 1) 1 := by decide +kernel
theorem d36_5 : dc c34_ 5 (.lconst 0) 1 := by decide +kernel
theorem d36_6 : dc c34_ 6 (.lcmp) 1 := by decide +kernel
theorem d36_7 : dc c34_ 7 (.ifCond .ge 14) 3 := by decide +kernel
theorem d36_21 : dc c34_ 21 (.aload_n 0) 1 := by decide +kernel
theorem d36_22 : dc c34_ 22 (.iconst 1) 1 := by decide +kernel
theorem d36_23 : dc c34_ 23 (.putfield 32) 3 := by decide +kernel
theorem d36_26 : dc c34_ 26 (.lload_n 1) 1 := by decide +kernel
theorem d36_27 : dc c34_ 27 (.bipush 32) 2 := by decide +kernel
theorem d36_29 : dc c34_ 29 (.lushr) 1 := by decide +kernel
theorem d36_30 : dc c34_ 30 (.l2i) 1 := by decide +kernel
theorem d36_31 : dc c34_ 31 (.istore_n 3) 1 := by decide +kernel
theorem d36_32 : dc c34_ 32 (.iload_n 3) 1 := by decide +kernel
theorem d36_33 : dc c34_ 33 (.ifCond .ne 21) 3 := by decide +kernel
theorem d36_36 : dc c34_ 36 (.aload_n 0) 1 := by decide +kernel
theorem d36_37 : dc c34_ 37 (.iconst 1) 1 := by decide +kernel
theorem d36_38 : dc c34_ 38 (.newarray .int) 2 := by decide +kernel
theorem d36_40 : dc c34_ 40 (.putfield 28) 3 := by decide +kernel
theorem d36_43 : dc c34_ 43 (.aload_n 0) 1 := by decide +kernel
theorem d36_44 : dc c34_ 44 (.getfield 28) 3 := by decide +kernel
theorem d36_47 : dc c34_ 47 (.iconst 0) 1 := by decide +kernel
theorem d36_48 : dc c34_ 48 (.lload_n 1) 1 := by decide +kernel
theorem d36_49 : dc c34_ 49 (.l2i) 1 := by decide +kernel
theorem d36_50 : dc c34_ 50 (.iastore) 1 := by decide +kernel
theorem d36_51 : dc c34_ 51 (.goto 25) 3 := by decide +kernel
theorem d36_54 : dc c34_ 54 (.aload_n 0) 1 := by decide +kernel
theorem d36_55 : dc c34_ 55 (.iconst 2) 1 := by decide +kernel
theorem d36_56 : dc c34_ 56 (.newarray .int) 2 := by decide +kernel
theorem d36_58 : dc c34_ 58 (.putfield 28) 3 := by decide +kernel
theorem d36_61 : dc c34_ 61 (.aload_n 0) 1 := by decide +kernel
theorem d36_62 : dc c34_ 62 (.getfield 28) 3 := by decide +kernel
theorem d36_65 : dc c34_ 65 (.iconst 0) 1 := by decide +kernel
theorem d36_66 : dc c34_ 66 (.iload_n 3) 1 := by decide +kernel
theorem d36_67 : dc c34_ 67 (.iastore) 1 := by decide +kernel
theorem d36_68 : dc c34_ 68 (.aload_n 0) 1 := by decide +kernel
theorem d36_69 : dc c34_ 69 (.getfield 28) 3 := by decide +kernel
theorem d36_72 : dc c34_ 72 (.iconst 1) 1 := by decide +kernel
theorem d36_73 : dc c34_ 73 (.lload_n 1) 1 := by decide +kernel
theorem d36_74 : dc c34_ 74 (.l2i) 1 := by decide +kernel
theorem d36_75 : dc c34_ 75 (.iastore) 1 := by decide +kernel
theorem d36_76 : dc c34_ 76 (.return_) 1 := by decide +kernel
theorem d37_0 : dc c35_ 0 (.aload_n 1) 1 := by decide +kernel
theorem d37_1 : dc c35_ 1 (.getfield 28) 3 := by decide +kernel
theorem d37_4 : dc c35_ 4 (.arraylength) 1 := by decide +kernel
theorem d37_5 : dc c35_ 5 (.bipush 80) 2 := by decide +kernel
theorem d37_7 : dc c35_ 7 (.if_icmp .lt 19) 3 := by decide +kernel
theorem d37_26 : dc c35_ 26 (.aload_n 0) 1 := by decide +kernel
theorem d37_27 : dc c35_ 27 (.aload_n 1) 1 := by decide +kernel
theorem d37_28 : dc c35_ 28 (.invokevirtual 551) 3 := by decide +kernel
theorem d37_31 : dc c35_ 31 (.areturn) 1 := by decide +kernel
theorem d38_0 : dc c36_ 0 (.iconst 2) 1 := by decide +kernel
theorem d38_1 : dc c36_ 1 (.anewarray 23) 3 := by decide +kernel
theorem d38_4 : dc c36_ 4 (.astore_n 2) 1 := by decide +kernel
theorem d38_5 : dc c36_ 5 (.new 541) 3 := by decide +kernel
theorem d38_8 : dc c36_ 8 (.dup) 1 := by decide +kernel
theorem d38_9 : dc c36_ 9 (.invokespecial 543) 3 := by decide +kernel
theorem d38_12 : dc c36_ 12 (.astore_n 3) 1 := by decide +kernel
theorem d38_13 : dc c36_ 13 (.new 541) 3 := by decide +kernel
theorem d38_16 : dc c36_ 16 (.dup) 1 := by decide +kernel
theorem d38_17 : dc c36_ 17 (.aload_n 0) 1 := by decide +kernel
theorem d38_18 : dc c36_ 18 (.getfield 28) 3 := by decide +kernel
theorem d38_21 : dc c36_ 21 (.invokespecial 544) 3 := by decide +kernel
theorem d38_24 : dc c36_ 24 (.astore 4) 2 := by decide +kernel
theorem d38_26 : dc c36_ 26 (.new 541) 3 := by decide +kernel
theorem d38_29 : dc c36_ 29 (.dup) 1 := by decide +kernel
theorem d38_30 : dc c36_ 30 (.aload_n 1) 1 := by decide +kernel
theorem d38_31 : dc c36_ 31 (.getfield 28) 3 := by decide +kernel
theorem d38_34 : dc c36_ 34 (.invokespecial 544) 3 := by decide +kernel
theorem d38_37 : dc c36_ 37 (.astore 5) 2 := by decide +kernel
theorem d38_39 : dc c36_ 39 (.aload 4) 2 := by decide +kernel
theorem d38_41 : dc c36_ 41 (.aload 5) 2 := by decide +kernel
theorem d38_43 : dc c36_ 43 (.aload_n 3) 1 := by decide +kernel
theorem d38_44 : dc c36_ 44 (.invokevirtual 558) 3 := by decide +kernel
theorem d38_47 : dc c36_ 47 (.astore 6) 2 := by decide +kernel
theorem d38_49 : dc c36_ 49 (.aload_n 2) 1 := by decide +kernel
theorem d38_50 : dc c36_ 50 (.iconst 0) 1 := by decide +kernel
theorem d38_51 : dc c36_ 51 (.aload_n 3) 1 := by decide +kernel
theorem d38_52 : dc c36_ 52 (.aload_n 0) 1 := by decide +kernel
theorem d38_53 : dc c36_ 53 (.getfield 32) 3 := by decide +kernel
theorem d38_56 : dc c36_ 56 (.aload_n 1) 1 := by decide +kernel
theorem d38_57 : dc c36_ 57 (.getfield 32) 3 := by decide +kernel
theorem d38_60 : dc c36_ 60 (.if_icmp .ne 7) 3 := by decide +kernel
theorem d38_63 : dc c36_ 63 (.iconst 1) 1 := by decide +kernel
theorem d38_64 : dc c36_ 64 (.goto 4) 3 := by decide +kernel
theorem d38_68 : dc c36_ 68 (.invokevirtual 548) 3 := by decide +kernel
theorem d38_71 : dc c36_ 71 (.aastore) 1 := by decide +kernel
theorem d38_72 : dc c36_ 72 (.aload_n 2) 1 := by decide +kernel
theorem d38_73 : dc c36_ 73 (.iconst 1) 1 := by decide +kernel
theorem d38_74 : dc c36_ 74 (.aload 6) 2 := by decide +kernel
theorem d38_76 : dc c36_ 76 (.aload_n 0) 1 := by decide +kernel
theorem d38_77 : dc c36_ 77 (.getfield 32) 3 := by decide +kernel
theorem d38_80 : dc c36_ 80 (.invokevirtual 548) 3 := by decide +kernel
theorem d38_83 : dc c36_ 83 (.aastore) 1 := by decide +kernel
theorem d38_84 : dc c36_ 84 (.aload_n 2) 1 := by decide +kernel
theorem d38_85 : dc c36_ 85 (.areturn) 1 := by decide +kernel
theorem d39_0 : dc c37_ 0 (.aload_n 0) 1 := by decide +kernel
theorem d39_1 : dc c37_ 1 (.invokespecial 5) 3 := by decide +kernel
theorem d39_4 : dc c37_ 4 (.aload_n 0) 1 := by decide +kernel
theorem d39_5 : dc c37_ 5 (.iconst 0) 1 := by decide +kernel
theorem d39_6 : dc c37_ 6 (.putfield 11) 3 := by decide +kernel
theorem d39_9 : dc c37_ 9 (.aload_n 0) 1 := by decide +kernel
theorem d39_10 : dc c37_ 10 (.iconst 1) 1 := by decide +kernel
theorem d39_11 : dc c37_ 11 (.newarray .int) 2 := by decide +kernel
theorem d39_13 : dc c37_ 13 (.putfield 17) 3 := by decide +kernel
theorem d39_16 : dc c37_ 16 (.aload_n 0) 1 := by decide +kernel
theorem d39_17 : dc c37_ 17 (.iconst 0) 1 := by decide +kernel
theorem d39_18 : dc c37_ 18 (.putfield 21) 3 := by decide +kernel
theorem d39_21 : dc c37_ 21 (.return_) 1 := by decide +kernel
theorem d40_0 : dc c38_ 0 (.aload_n 0) 1 := by decide +kernel
theorem d40_1 : dc c38_ 1 (.invokespecial 5) 3 := by decide +kernel
theorem d40_4 : dc c38_ 4 (.aload_n 0) 1 := by decide +kernel
theorem d40_5 : dc c38_ 5 (.iconst 0) 1 := by decide +kernel
theorem d40_6 : dc c38_ 6 (.putfield 11) 3 := by decide +kernel
theorem d40_9 : dc c38_ 9 (.aload_n 0) 1 := by decide +kernel
theorem d40_10 : dc c38_ 10 (.aload_n 1) 1 := by decide +kernel
theorem d40_11 : dc c38_ 11 (.putfield 17) 3 := by decide +kernel
theorem d40_14 : dc c38_ 14 (.aload_n 0) 1 := by decide +kernel
theorem d40_15 : dc c38_ 15 (.aload_n 1) 1 := by decide +kernel
theorem d40_16 : dc c38_ 16 (.arraylength) 1 := by decide +kernel
theorem d40_17 : dc c38_ 17 (.putfield 21) 3 := by decide +kernel
theorem d40_20 : dc c38_ 20 (.return_) 1 := by decide +kernel
theorem d41_0 : dc c39_ 0 (.aload_n 0) 1 := by decide +kernel
theorem d41_1 : dc c39_ 1 (.aload_n 1) 1 := by decide +kernel
theorem d41_2 : dc c39_ 2 (.aload_n 2) 1 := by decide +kernel
theorem d41_3 : dc c39_ 3 (.iconst 1) 1 := by decide +kernel
theorem d41_4 : dc c39_ 4 (.invokevirtual 163) 3 := by decide +kernel
theorem d41_7 : dc c39_ 7 (.areturn) 1 := by decide +kernel
theorem d42_0 : dc c40_ 0 (.aload_n 1) 1 := by decide +kernel
theorem d42_1 : dc c40_ 1 (.getfield 21) 3 := by decide +kernel
theorem d42_4 : dc c40_ 4 (.ifCond .ne 13) 3 := by decide +kernel
theorem d42_17 : dc c40_ 17 (.aload_n 0) 1 := by decide +kernel
theorem d42_18 : dc c40_ 18 (.getfield 21) 3 := by decide +kernel
theorem d42_21 : dc c40_ 21 (.ifCond .ne 29) 3 := by decide +kernel
theorem d42_50 : dc c40_ 50 (.aload_n 0) 1 := by decide +kernel
theorem d42_51 : dc c40_ 51 (.aload_n 1) 1 := by decide +kernel
theorem d42_52 : dc c40_ 52 (.invokevirtual 142) 3 := by decide +kernel
theorem d42_55 : dc c40_ 55 (.istore 4) 2 := by decide +kernel
theorem d42_57 : dc c40_ 57 (.iload 4) 2 := by decide +kernel
theorem d42_59 : dc c40_ 59 (.ifCond .ge 30) 3 := by decide +kernel
theorem d42_89 : dc c40_ 89 (.iload 4) 2 := by decide +kernel
theorem d42_91 : dc c40_ 91 (.ifCond .ne 36) 3 := by decide +kernel
theorem d42_127 : dc c40_ 127 (.aload_n 2) 1 := by decide +kernel
theorem d42_128 : dc c40_ 128 (.invokevirtual 149) 3 := by decide +kernel
theorem d42_131 : dc c40_ 131 (.aload_n 1) 1 := by decide +kernel
theorem d42_132 : dc c40_ 132 (.getfield 21) 3 := by decide +kernel
theorem d42_135 : dc c40_ 135 (.iconst 1) 1 := by decide +kernel
theorem d42_136 : dc c40_ 136 (.if_icmp .ne 48) 3 := by decide +kernel
theorem d42_139 : dc c40_ 139 (.aload_n 0) 1 := by decide +kernel
theorem d42_140 : dc c40_ 140 (.aload_n 1) 1 := by decide +kernel
theorem d42_141 : dc c40_ 141 (.getfield 17) 3 := by decide +kernel
theorem d42_144 : dc c40_ 144 (.aload_n 1) 1 := by decide +kernel
theorem d42_145 : dc c40_ 145 (.getfield 11) 3 := by decide +kernel
theorem d42_148 : dc c40_ 148 (.iaload) 1 := by decide +kernel
theorem d42_149 : dc c40_ 149 (.aload_n 2) 1 := by decide +kernel
theorem d42_150 : dc c40_ 150 (.invokevirtual 178) 3 := by decide +kernel
theorem d42_153 : dc c40_ 153 (.istore 5) 2 := by decide +kernel
theorem d42_155 : dc c40_ 155 (.iload_n 3) 1 := by decide +kernel
theorem d42_156 : dc c40_ 156 (.ifCond .eq 26) 3 := by decide +kernel
theorem d42_159 : dc c40_ 159 (.iload 5) 2 := by decide +kernel
theorem d42_161 : dc c40_ 161 (.ifCond .ne 11) 3 := by decide +kernel
theorem d42_164 : dc c40_ 164 (.new 12) 3 := by decide +kernel
theorem d42_167 : dc c40_ 167 (.dup) 1 := by decide +kernel
theorem d42_168 : dc c40_ 168 (.invokespecial 177) 3 := by decide +kernel
theorem d42_171 : dc c40_ 171 (.areturn) 1 := by decide +kernel
theorem d43_0 : dc c41_ 0 (.aload_n 1) 1 := by decide +kernel
theorem d43_1 : dc c41_ 1 (.getfield 21) 3 := by decide +kernel
theorem d43_4 : dc c41_ 4 (.istore_n 2) 1 := by decide +kernel
theorem d43_5 : dc c41_ 5 (.aload_n 0) 1 := by decide +kernel
theorem d43_6 : dc c41_ 6 (.getfield 21) 3 := by decide +kernel
theorem d43_9 : dc c41_ 9 (.iload_n 2) 1 := by decide +kernel
theorem d43_10 : dc c41_ 10 (.if_icmp .ge 5) 3 := by decide +kernel
theorem d43_15 : dc c41_ 15 (.aload_n 0) 1 := by decide +kernel
theorem d43_16 : dc c41_ 16 (.getfield 21) 3 := by decide +kernel
theorem d43_19 : dc c41_ 19 (.iload_n 2) 1 := by decide +kernel
theorem d43_20 : dc c41_ 20 (.if_icmp .le 5) 3 := by decide +kernel
theorem d43_23 : dc c41_ 23 (.iconst 1) 1 := by decide +kernel
theorem d43_24 : dc c41_ 24 (.ireturn) 1 := by decide +kernel
theorem d43_25 : dc c41_ 25 (.aload_n 1) 1 := by decide +kernel
theorem d43_26 : dc c41_ 26 (.getfield 17) 3 := by decide +kernel
theorem d43_29 : dc c41_ 29 (.astore_n 3) 1 := by decide +kernel
theorem d43_30 : dc c41_ 30 (.aload_n 0) 1 := by decide +kernel
theorem d43_31 : dc c41_ 31 (.getfield 11) 3 := by decide +kernel
theorem d43_34 : dc c41_ 34 (.istore 4) 2 := by decide +kernel
theorem d43_36 : dc c41_ 36 (.aload_n 1) 1 := by decide +kernel
theorem d43_37 : dc c41_ 37 (.getfield 11) 3 := by decide +kernel
theorem d43_40 : dc c41_ 40 (.istore 5) 2 := by decide +kernel
theorem d43_42 : dc c41_ 42 (.iload 4) 2 := by decide +kernel
theorem d43_44 : dc c41_ 44 (.aload_n 0) 1 := by decide +kernel
theorem d43_45 : dc c41_ 45 (.getfield 21) 3 := by decide +kernel
theorem d43_48 : dc c41_ 48 (.aload_n 0) 1 := by decide +kernel
theorem d43_49 : dc c41_ 49 (.getfield 11) 3 := by decide +kernel
theorem d43_52 : dc c41_ 52 (.iadd) 1 := by decide +kernel
theorem d43_53 : dc c41_ 53 (.if_icmp .ge 51) 3 := by decide +kernel
theorem d43_56 : dc c41_ 56 (.aload_n 0) 1 := by decide +kernel
theorem d43_57 : dc c41_ 57 (.getfield 17) 3 := by decide +kernel
theorem d43_60 : dc c41_ 60 (.iload 4) 2 := by decide +kernel
theorem d43_62 : dc c41_ 62 (.iaload) 1 := by decide +kernel
theorem d43_63 : dc c41_ 63 (.ldc 88) 2 := by decide +kernel
theorem d43_65 : dc c41_ 65 (.iadd) 1 := by decide +kernel
theorem d43_66 : dc c41_ 66 (.istore 6) 2 := by decide +kernel
theorem d43_68 : dc c41_ 68 (.aload_n 3) 1 := by decide +kernel
theorem d43_69 : dc c41_ 69 (.iload 5) 2 := by decide +kernel
theorem d43_71 : dc c41_ 71 (.iaload) 1 := by decide +kernel
theorem d43_72 : dc c41_ 72 (.ldc 88) 2 := by decide +kernel
theorem d43_74 : dc c41_ 74 (.iadd) 1 := by decide +kernel
theorem d43_75 : dc c41_ 75 (.istore 7) 2 := by decide +kernel
theorem d43_77 : dc c41_ 77 (.iload 6) 2 := by decide +kernel
theorem d43_79 : dc c41_ 79 (.iload 7) 2 := by decide +kernel
theorem d43_81 : dc c41_ 81 (.if_icmp .ge 5) 3 := by decide +kernel
theorem d43_86 : dc c41_ 86 (.iload 6) 2 := by decide +kernel
theorem d43_88 : dc c41_ 88 (.iload 7) 2 := by decide +kernel
theorem d43_90 : dc c41_ 90 (.if_icmp .le 5) 3 := by decide +kernel
theorem d43_93 : dc c41_ 93 (.iconst 1) 1 := by decide +kernel
theorem d43_94 : dc c41_ 94 (.ireturn) 1 := by decide +kernel
theorem d44_0 : dc c42_ 0 (.aload_n 0) 1 := by decide +kernel
theorem d44_1 : dc c42_ 1 (.aload_n 0) 1 := by decide +kernel
theorem d44_2 : dc c42_ 2 (.iconst 0) 1 := by decide +kernel
theorem d44_3 : dc c42_ 3 (.dup_x1) 1 := by decide +kernel
theorem d44_4 : dc c42_ 4 (.putfield 21) 3 := by decide +kernel
theorem d44_7 : dc c42_ 7 (.putfield 11) 3 := by decide +kernel
theorem d44_10 : dc c42_ 10 (.iconst 0) 1 := by decide +kernel
theorem d44_11 : dc c42_ 11 (.istore_n 1) 1 := by decide +kernel
theorem d44_12 : dc c42_ 12 (.aload_n 0) 1 := by decide +kernel
theorem d44_13 : dc c42_ 13 (.getfield 17) 3 := by decide +kernel
theorem d44_16 : dc c42_ 16 (.arraylength) 1 := by decide +kernel
theorem d44_17 : dc c42_ 17 (.istore_n 2) 1 := by decide +kernel
theorem d44_18 : dc c42_ 18 (.iload_n 1) 1 := by decide +kernel
theorem d44_19 : dc c42_ 19 (.iload_n 2) 1 := by decide +kernel
theorem d44_20 : dc c42_ 20 (.if_icmp .ge 16) 3 := by decide +kernel
theorem d44_23 : dc c42_ 23 (.aload_n 0) 1 := by decide +kernel
theorem d44_24 : dc c42_ 24 (.getfield 17) 3 := by decide +kernel
theorem d44_27 : dc c42_ 27 (.iload_n 1) 1 := by decide +kernel
theorem d44_28 : dc c42_ 28 (.iconst 0) 1 := by decide +kernel
theorem d44_29 : dc c42_ 29 (.iastore) 1 := by decide +kernel
theorem d44_30 : dc c42_ 30 (.iinc 1 1) 3 := by decide +kernel
theorem d44_33 : dc c42_ 33 (.goto (-15)) 3 := by decide +kernel
theorem d44_36 : dc c42_ 36 (.return_) 1 := by decide +kernel
theorem d45_0 : dc c43_ 0 (.iload_n 1) 1 := by decide +kernel
theorem d45_1 : dc c43_ 1 (.i2l) 1 := by decide +kernel
theorem d45_2 : dc c43_ 2 (.ldc2_w 52) 3 := by decide +kernel
theorem d45_5 : dc c43_ 5 (.land) 1 := by decide +kernel
theorem d45_6 : dc c43_ 6 (.lstore_n 3) 1 := by decide +kernel
theorem d45_7 : dc c43_ 7 (.aload_n 0) 1 := by decide +kernel
theorem d45_8 : dc c43_ 8 (.getfield 21) 3 := by decide +kernel
theorem d45_11 : dc c43_ 11 (.iconst 1) 1 := by decide +kernel
theorem d45_12 : dc c43_ 12 (.if_icmp .ne 67) 3 := by decide +kernel
theorem d45_15 : dc c43_ 15 (.aload_n 0) 1 := by decide +kernel
theorem d45_16 : dc c43_ 16 (.getfield 17) 3 := by decide +kernel
theorem d45_19 : dc c43_ 19 (.aload_n 0) 1 := by decide +kernel
theorem d45_20 : dc c43_ 20 (.getfield 11) 3 := by decide +kernel
theorem d45_23 : dc c43_ 23 (.iaload) 1 := by decide +kernel
theorem d45_24 : dc c43_ 24 (.i2l) 1 := by decide +kernel
theorem d45_25 : dc c43_ 25 (.ldc2_w 52) 3 := by decide +kernel
theorem d45_28 : dc c43_ 28 (.land) 1 := by decide +kernel
theorem d45_29 : dc c43_ 29 (.lstore 5) 2 := by decide +kernel
theorem d45_31 : dc c43_ 31 (.lload 5) 2 := by decide +kernel
theorem d45_33 : dc c43_ 33 (.lload_n 3) 1 := by decide +kernel
theorem d45_34 : dc c43_ 34 (.ldiv) 1 := by decide +kernel
theorem d45_35 : dc c43_ 35 (.l2i) 1 := by decide +kernel
theorem d45_36 : dc c43_ 36 (.istore 7) 2 := by decide +kernel
theorem d45_38 : dc c43_ 38 (.lload 5) 2 := by decide +kernel
theorem d45_40 : dc c43_ 40 (.iload 7) 2 := by decide +kernel
theorem d45_42 : dc c43_ 42 (.i2l) 1 := by decide +kernel
theorem d45_43 : dc c43_ 43 (.lload_n 3) 1 := by decide +kernel
theorem d45_44 : dc c43_ 44 (.lmul) 1 := by decide +kernel
theorem d45_45 : dc c43_ 45 (.lsub) 1 := by decide +kernel
theorem d45_46 : dc c43_ 46 (.l2i) 1 := by decide +kernel
theorem d45_47 : dc c43_ 47 (.istore 8) 2 := by decide +kernel
theorem d45_49 : dc c43_ 49 (.aload_n 2) 1 := by decide +kernel
theorem d45_50 : dc c43_ 50 (.getfield 17) 3 := by decide +kernel
theorem d45_53 : dc c43_ 53 (.iconst 0) 1 := by decide +kernel
theorem d45_54 : dc c43_ 54 (.iload 7) 2 := by decide +kernel
theorem d45_56 : dc c43_ 56 (.iastore) 1 := by decide +kernel
theorem d45_57 : dc c43_ 57 (.aload_n 2) 1 := by decide +kernel
theorem d45_58 : dc c43_ 58 (.iload 7) 2 := by decide +kernel
theorem d45_60 : dc c43_ 60 (.ifCond .ne 7) 3 := by decide +kernel
theorem d45_67 : dc c43_ 67 (.iconst 1) 1 := by decide +kernel
theorem d45_68 : dc c43_ 68 (.putfield 21) 3 := by decide +kernel
theorem d45_71 : dc c43_ 71 (.aload_n 2) 1 := by decide +kernel
theorem d45_72 : dc c43_ 72 (.iconst 0) 1 := by decide +kernel
theorem d45_73 : dc c43_ 73 (.putfield 11) 3 := by decide +kernel
theorem d45_76 : dc c43_ 76 (.iload 8) 2 := by decide +kernel
theorem d45_78 : dc c43_ 78 (.ireturn) 1 := by decide +kernel
theorem d45_79 : dc c43_ 79 (.aload_n 2) 1 := by decide +kernel
theorem d45_80 : dc c43_ 80 (.getfield 17) 3 := by decide +kernel
theorem d45_83 : dc c43_ 83 (.arraylength) 1 := by decide +kernel
theorem d45_84 : dc c43_ 84 (.aload_n 0) 1 := by decide +kernel
theorem d45_85 : dc c43_ 85 (.getfield 21) 3 := by decide +kernel
theorem d45_88 : dc c43_ 88 (.if_icmp .ge 13) 3 := by decide +kernel
theorem d45_91 : dc c43_ 91 (.aload_n 2) 1 := by decide +kernel
theorem d45_92 : dc c43_ 92 (.aload_n 0) 1 := by decide +kernel
theorem d45_93 : dc c43_ 93 (.getfield 21) 3 := by decide +kernel
theorem d45_96 : dc c43_ 96 (.newarray .int) 2 := by decide +kernel
theorem d45_98 : dc c43_ 98 (.putfield 17) 3 := by decide +kernel
theorem d45_101 : dc c43_ 101 (.aload_n 2) 1 := by decide +kernel
theorem d45_102 : dc c43_ 102 (.iconst 0) 1 := by decide +kernel
theorem d45_103 : dc c43_ 103 (.putfield 11) 3 := by decide +kernel
theorem d45_106 : dc c43_ 106 (.aload_n 2) 1 := by decide +kernel
theorem d45_107 : dc c43_ 107 (.aload_n 0) 1 := by decide +kernel
theorem d45_108 : dc c43_ 108 (.getfield 21) 3 := by decide +kernel
theorem d45_111 : dc c43_ 111 (.putfield 21) 3 := by decide +kernel
theorem d45_114 : dc c43_ 114 (.iload_n 1) 1 := by decide +kernel
theorem d45_115 : dc c43_ 115 (.invokestatic 152) 3 := by decide +kernel
theorem d45_118 : dc c43_ 118 (.istore 5) 2 := by decide +kernel
theorem d45_120 : dc c43_ 120 (.aload_n 0) 1 := by decide +kernel
theorem d45_121 : dc c43_ 121 (.getfield 17) 3 := by decide +kernel
theorem d45_124 : dc c43_ 124 (.aload_n 0) 1 := by decide +kernel
theorem d45_125 : dc c43_ 125 (.getfield 11) 3 := by decide +kernel
theorem d45_128 : dc c43_ 128 (.iaload) 1 := by decide +kernel
theorem d45_129 : dc c43_ 129 (.istore 6) 2 := by decide +kernel
theorem d45_131 : dc c43_ 131 (.iload 6) 2 := by decide +kernel
theorem d45_133 : dc c43_ 133 (.i2l) 1 := by decide +kernel
theorem d45_134 : dc c43_ 134 (.ldc2_w 52) 3 := by decide +kernel
theorem d45_137 : dc c43_ 137 (.land) 1 := by decide +kernel
theorem d45_138 : dc c43_ 138 (.lstore 7) 2 := by decide +kernel
theorem d45_140 : dc c43_ 140 (.lload 7) 2 := by decide +kernel
theorem d45_142 : dc c43_ 142 (.lload_n 3) 1 := by decide +kernel
theorem d45_143 : dc c43_ 143 (.lcmp) 1 := by decide +kernel
theorem d45_144 : dc c43_ 144 (.ifCond .ge 13) 3 := by decide +kernel
theorem d45_147 : dc c43_ 147 (.aload_n 2) 1 := by decide +kernel
theorem d45_148 : dc c43_ 148 (.getfield 17) 3 := by decide +kernel
theorem d45_151 : dc c43_ 151 (.iconst 0) 1 := by decide +kernel
theorem d45_152 : dc c43_ 152 (.iconst 0) 1 := by decide +kernel
theorem d45_153 : dc c43_ 153 (.iastore) 1 := by decide +kernel
theorem d45_154 : dc c43_ 154 (.goto 38) 3 := by decide +kernel
theorem d45_192 : dc c43_ 192 (.aload_n 0) 1 := by decide +kernel
theorem d45_193 : dc c43_ 193 (.getfield 21) 3 := by decide +kernel
theorem d45_196 : dc c43_ 196 (.istore 9) 2 := by decide +kernel
theorem d45_198 : dc c43_ 198 (.iinc 9 (-1)) 3 := by decide +kernel
theorem d45_201 : dc c43_ 201 (.iload 9) 2 := by decide +kernel
theorem d45_203 : dc c43_ 203 (.ifCond .le 112) 3 := by decide +kernel
theorem d45_206 : dc c43_ 206 (.lload 7) 2 := by decide +kernel
theorem d45_208 : dc c43_ 208 (.bipush 32) 2 := by decide +kernel
theorem d45_210 : dc c43_ 210 (.lshl) 1 := by decide +kernel
theorem d45_211 : dc c43_ 211 (.aload_n 0) 1 := by decide +kernel
theorem d45_212 : dc c43_ 212 (.getfield 17) 3 := by decide +kernel
theorem d45_215 : dc c43_ 215 (.aload_n 0) 1 := by decide +kernel
theorem d45_216 : dc c43_ 216 (.getfield 11) 3 := by decide +kernel
theorem d45_219 : dc c43_ 219 (.aload_n 0) 1 := by decide +kernel
theorem d45_220 : dc c43_ 220 (.getfield 21) 3 := by decide +kernel
theorem d45_223 : dc c43_ 223 (.iadd) 1 := by decide +kernel
theorem d45_224 : dc c43_ 224 (.iload 9) 2 := by decide +kernel
theorem d45_226 : dc c43_ 226 (.isub) 1 := by decide +kernel
theorem d45_227 : dc c43_ 227 (.iaload) 1 := by decide +kernel
theorem d45_228 : dc c43_ 228 (.i2l) 1 := by decide +kernel
theorem d45_229 : dc c43_ 229 (.ldc2_w 52) 3 := by decide +kernel
theorem d45_232 : dc c43_ 232 (.land) 1 := by decide +kernel
theorem d45_233 : dc c43_ 233 (.lor) 1 := by decide +kernel
theorem d45_234 : dc c43_ 234 (.lstore 10) 2 := by decide +kernel
theorem d45_236 : dc c43_ 236 (.lload 10) 2 := by decide +kernel
theorem d45_238 : dc c43_ 238 (.lconst 0) 1 := by decide +kernel
theorem d45_239 : dc c43_ 239 (.lcmp) 1 := by decide +kernel
theorem d45_240 : dc c43_ 240 (.ifCond .lt 24) 3 := by decide +kernel
theorem d45_243 : dc c43_ 243 (.lload 10) 2 := by decide +kernel
theorem d45_245 : dc c43_ 245 (.lload_n 3) 1 := by decide +kernel
theorem d45_246 : dc c43_ 246 (.ldiv) 1 := by decide +kernel
theorem d45_247 : dc c43_ 247 (.l2i) 1 := by decide +kernel
theorem d45_248 : dc c43_ 248 (.istore 12) 2 := by decide +kernel
theorem d45_250 : dc c43_ 250 (.lload 10) 2 := by decide +kernel
theorem d45_252 : dc c43_ 252 (.iload 12) 2 := by decide +kernel
theorem d45_254 : dc c43_ 254 (.i2l) 1 := by decide +kernel
theorem d45_255 : dc c43_ 255 (.lload_n 3) 1 := by decide +kernel
theorem d45_256 : dc c43_ 256 (.lmul) 1 := by decide +kernel
theorem d45_257 : dc c43_ 257 (.lsub) 1 := by decide +kernel
theorem d45_258 : dc c43_ 258 (.l2i) 1 := by decide +kernel
theorem d45_259 : dc c43_ 259 (.istore 6) 2 := by decide +kernel
theorem d45_261 : dc c43_ 261 (.goto 28) 3 := by decide +kernel
theorem d45_289 : dc c43_ 289 (.aload_n 2) 1 := by decide +kernel
theorem d45_290 : dc c43_ 290 (.getfield 17) 3 := by decide +kernel
theorem d45_293 : dc c43_ 293 (.aload_n 0) 1 := by decide +kernel
theorem d45_294 : dc c43_ 294 (.getfield 21) 3 := by decide +kernel
theorem d45_297 : dc c43_ 297 (.iload 9) 2 := by decide +kernel
theorem d45_299 : dc c43_ 299 (.isub) 1 := by decide +kernel
theorem d45_300 : dc c43_ 300 (.iload 12) 2 := by decide +kernel
theorem d45_302 : dc c43_ 302 (.iastore) 1 := by decide +kernel
theorem d45_303 : dc c43_ 303 (.iload 6) 2 := by decide +kernel
theorem d45_305 : dc c43_ 305 (.i2l) 1 := by decide +kernel
theorem d45_306 : dc c43_ 306 (.ldc2_w 52) 3 := by decide +kernel
theorem d45_309 : dc c43_ 309 (.land) 1 := by decide +kernel
theorem d45_310 : dc c43_ 310 (.lstore 7) 2 := by decide +kernel
theorem d45_312 : dc c43_ 312 (.goto (-114)) 3 := by decide +kernel
theorem d45_315 : dc c43_ 315 (.aload_n 2) 1 := by decide +kernel
theorem d45_316 : dc c43_ 316 (.invokevirtual 64) 3 := by decide +kernel
theorem d45_319 : dc c43_ 319 (.iload 5) 2 := by decide +kernel
theorem d45_321 : dc c43_ 321 (.ifCond .le 8) 3 := by decide +kernel
theorem d45_324 : dc c43_ 324 (.iload 6) 2 := by decide +kernel
theorem d45_326 : dc c43_ 326 (.iload_n 1) 1 := by decide +kernel
theorem d45_327 : dc c43_ 327 (.irem) 1 := by decide +kernel
theorem d45_328 : dc c43_ 328 (.ireturn) 1 := by decide +kernel
theorem d46_0 : dc c44_ 0 (.aload_n 0) 1 := by decide +kernel
theorem d46_1 : dc c44_ 1 (.getfield 21) 3 := by decide +kernel
theorem d46_4 : dc c44_ 4 (.ifCond .eq 7) 3 := by decide +kernel
theorem d46_7 : dc c44_ 7 (.iload_n 1) 1 := by decide +kernel
theorem d46_8 : dc c44_ 8 (.ifCond .ne 7) 3 := by decide +kernel
theorem d46_11 : dc c44_ 11 (.getstatic 54) 3 := by decide +kernel
theorem d46_14 : dc c44_ 14 (.areturn) 1 := by decide +kernel
theorem d46_15 : dc c44_ 15 (.new 1) 3 := by decide +kernel
theorem d46_18 : dc c44_ 18 (.dup) 1 := by decide +kernel
theorem d46_19 : dc c44_ 19 (.aload_n 0) 1 := by decide +kernel
theorem d46_20 : dc c44_ 20 (.invokevirtual 58) 3 := by decide +kernel
theorem d46_23 : dc c44_ 23 (.iload_n 1) 1 := by decide +kernel
theorem d46_24 : dc c44_ 24 (.invokespecial 62) 3 := by decide +kernel
theorem d46_27 : dc c44_ 27 (.areturn) 1 := by decide +kernel
theorem d47_0 : dc c45_ 0 (.aload_n 0) 1 := by decide +kernel
theorem d47_1 : dc c45_ 1 (.getfield 11) 3 := by decide +kernel
theorem d47_4 : dc c45_ 4 (.ifCond .gt 15) 3 := by decide +kernel
theorem d47_7 : dc c45_ 7 (.aload_n 0) 1 := by decide +kernel
theorem d47_8 : dc c45_ 8 (.getfield 17) 3 := by decide +kernel
theorem d47_11 : dc c45_ 11 (.arraylength) 1 := by decide +kernel
theorem d47_12 : dc c45_ 12 (.aload_n 0) 1 := by decide +kernel
theorem d47_13 : dc c45_ 13 (.getfield 21) 3 := by decide +kernel
theorem d47_16 : dc c45_ 16 (.if_icmp .eq 48) 3 := by decide +kernel
theorem d47_19 : dc c45_ 19 (.aload_n 0) 1 := by decide +kernel
theorem d47_20 : dc c45_ 20 (.getfield 17) 3 := by decide +kernel
theorem d47_23 : dc c45_ 23 (.aload_n 0) 1 := by decide +kernel
theorem d47_24 : dc c45_ 24 (.getfield 11) 3 := by decide +kernel
theorem d47_27 : dc c45_ 27 (.aload_n 0) 1 := by decide +kernel
theorem d47_28 : dc c45_ 28 (.getfield 11) 3 := by decide +kernel
theorem d47_31 : dc c45_ 31 (.aload_n 0) 1 := by decide +kernel
theorem d47_32 : dc c45_ 32 (.getfield 21) 3 := by decide +kernel
theorem d47_35 : dc c45_ 35 (.iadd) 1 := by decide +kernel
theorem d47_36 : dc c45_ 36 (.invokestatic 33) 3 := by decide +kernel
theorem d47_39 : dc c45_ 39 (.astore_n 1) 1 := by decide +kernel
theorem d47_40 : dc c45_ 40 (.aload_n 0) 1 := by decide +kernel
theorem d47_41 : dc c45_ 41 (.getfield 17) 3 := by decide +kernel
theorem d47_44 : dc c45_ 44 (.iconst 0) 1 := by decide +kernel
theorem d47_45 : dc c45_ 45 (.invokestatic 37) 3 := by decide +kernel
theorem d47_48 : dc c45_ 48 (.aload_n 0) 1 := by decide +kernel
theorem d47_49 : dc c45_ 49 (.iconst 0) 1 := by decide +kernel
theorem d47_50 : dc c45_ 50 (.putfield 11) 3 := by decide +kernel
theorem d47_53 : dc c45_ 53 (.aload_n 0) 1 := by decide +kernel
theorem d47_54 : dc c45_ 54 (.aload_n 1) 1 := by decide +kernel
theorem d47_55 : dc c45_ 55 (.arraylength) 1 := by decide +kernel
theorem d47_56 : dc c45_ 56 (.putfield 21) 3 := by decide +kernel
theorem d47_59 : dc c45_ 59 (.aload_n 0) 1 := by decide +kernel
theorem d47_60 : dc c45_ 60 (.aload_n 1) 1 := by decide +kernel
theorem d47_61 : dc c45_ 61 (.putfield 17) 3 := by decide +kernel
theorem d47_64 : dc c45_ 64 (.aload_n 0) 1 := by decide +kernel
theorem d47_65 : dc c45_ 65 (.getfield 17) 3 := by decide +kernel
theorem d47_68 : dc c45_ 68 (.areturn) 1 := by decide +kernel
theorem d48_0 : dc c46_ 0 (.aload_n 0) 1 := by decide +kernel
theorem d48_1 : dc c46_ 1 (.invokespecial 3) 3 := by decide +kernel
theorem d48_4 : dc c46_ 4 (.aload_n 0) 1 := by decide +kernel
theorem d48_5 : dc c46_ 5 (.aload_n 1) 1 := by decide +kernel
theorem d48_6 : dc c46_ 6 (.arraylength) 1 := by decide +kernel
theorem d48_7 : dc c46_ 7 (.ifCond .ne 7) 3 := by decide +kernel
theorem d48_14 : dc c46_ 14 (.iload_n 2) 1 := by decide +kernel
theorem d48_15 : dc c46_ 15 (.putfield 32) 3 := by decide +kernel
theorem d48_18 : dc c46_ 18 (.aload_n 0) 1 := by decide +kernel
theorem d48_19 : dc c46_ 19 (.aload_n 1) 1 := by decide +kernel
theorem d48_20 : dc c46_ 20 (.putfield 28) 3 := by decide +kernel
theorem d48_23 : dc c46_ 23 (.aload_n 0) 1 := by decide +kernel
theorem d48_24 : dc c46_ 24 (.getfield 28) 3 := by decide +kernel
theorem d48_27 : dc c46_ 27 (.arraylength) 1 := by decide +kernel
theorem d48_28 : dc c46_ 28 (.ldc 43) 2 := by decide +kernel
theorem d48_30 : dc c46_ 30 (.if_icmp .lt 7) 3 := by decide +kernel
theorem d48_37 : dc c46_ 37 (.return_) 1 := by decide +kernel
theorem d49_0 : dc c47_ 0 (.aload_n 0) 1 := by decide +kernel
theorem d49_1 : dc c47_ 1 (.getfield 747) 3 := by decide +kernel
theorem d49_4 : dc c47_ 4 (.iconst 1) 1 := by decide +kernel
theorem d49_5 : dc c47_ 5 (.isub) 1 := by decide +kernel
theorem d49_6 : dc c47_ 6 (.istore_n 1) 1 := by decide +kernel
theorem d49_7 : dc c47_ 7 (.iload_n 1) 1 := by decide +kernel
theorem d49_8 : dc c47_ 8 (.iconst (-1)) 1 := by decide +kernel
theorem d49_9 : dc c47_ 9 (.if_icmp .ne 129) 3 := by decide +kernel
theorem d49_12 : dc c47_ 12 (.aload_n 0) 1 := by decide +kernel
theorem d49_13 : dc c47_ 13 (.getfield 28) 3 := by decide +kernel
theorem d49_16 : dc c47_ 16 (.astore_n 2) 1 := by decide +kernel
theorem d49_17 : dc c47_ 17 (.aload_n 2) 1 := by decide +kernel
theorem d49_18 : dc c47_ 18 (.arraylength) 1 := by decide +kernel
theorem d49_19 : dc c47_ 19 (.istore_n 3) 1 := by decide +kernel
theorem d49_20 : dc c47_ 20 (.iload_n 3) 1 := by decide +kernel
theorem d49_21 : dc c47_ 21 (.ifCond .ne 8) 3 := by decide +kernel
theorem d49_29 : dc c47_ 29 (.iload_n 3) 1 := by decide +kernel
theorem d49_30 : dc c47_ 30 (.iconst 1) 1 := by decide +kernel
theorem d49_31 : dc c47_ 31 (.isub) 1 := by decide +kernel
theorem d49_32 : dc c47_ 32 (.iconst 5) 1 := by decide +kernel
theorem d49_33 : dc c47_ 33 (.ishl) 1 := by decide +kernel
theorem d49_34 : dc c47_ 34 (.aload_n 0) 1 := by decide +kernel
theorem d49_35 : dc c47_ 35 (.getfield 28) 3 := by decide +kernel
theorem d49_38 : dc c47_ 38 (.iconst 0) 1 := by decide +kernel
theorem d49_39 : dc c47_ 39 (.iaload) 1 := by decide +kernel
theorem d49_40 : dc c47_ 40 (.invokestatic 605) 3 := by decide +kernel
theorem d49_43 : dc c47_ 43 (.iadd) 1 := by decide +kernel
theorem d49_44 : dc c47_ 44 (.istore 4) 2 := by decide +kernel
theorem d49_46 : dc c47_ 46 (.aload_n 0) 1 := by decide +kernel
theorem d49_47 : dc c47_ 47 (.getfield 32) 3 := by decide +kernel
theorem d49_50 : dc c47_ 50 (.ifCond .ge 78) 3 := by decide +kernel
theorem d49_128 : dc c47_ 128 (.iload 4) 2 := by decide +kernel
theorem d49_130 : dc c47_ 130 (.istore_n 1) 1 := by decide +kernel
theorem d49_131 : dc c47_ 131 (.aload_n 0) 1 := by decide +kernel
theorem d49_132 : dc c47_ 132 (.iload_n 1) 1 := by decide +kernel
theorem d49_133 : dc c47_ 133 (.iconst 1) 1 := by decide +kernel
theorem d49_134 : dc c47_ 134 (.iadd) 1 := by decide +kernel
theorem d49_135 : dc c47_ 135 (.putfield 747) 3 := by decide +kernel
theorem d49_138 : dc c47_ 138 (.iload_n 1) 1 := by decide +kernel
theorem d49_139 : dc c47_ 139 (.ireturn) 1 := by decide +kernel
theorem d50_0 : dc c48_ 0 (.bipush 32) 2 := by decide +kernel
theorem d50_2 : dc c48_ 2 (.iload_n 0) 1 := by decide +kernel
theorem d50_3 : dc c48_ 3 (.invokestatic 602) 3 := by decide +kernel
theorem d50_6 : dc c48_ 6 (.isub) 1 := by decide +kernel
theorem d50_7 : dc c48_ 7 (.ireturn) 1 := by decide +kernel
theorem d51_0 : dc c49_ 0 (.iload_n 0) 1 := by decide +kernel
theorem d51_1 : dc c49_ 1 (.ifCond .gt 14) 3 := by decide +kernel
theorem d51_15 : dc c49_ 15 (.bipush 31) 2 := by decide +kernel
theorem d51_17 : dc c49_ 17 (.istore_n 1) 1 := by decide +kernel
theorem d51_18 : dc c49_ 18 (.iload_n 0) 1 := by decide +kernel
theorem d51_19 : dc c49_ 19 (.ldc_w 264) 3 := by decide +kernel
theorem d51_22 : dc c49_ 22 (.if_icmp .lt 11) 3 := by decide +kernel
theorem d51_25 : dc c49_ 25 (.iinc 1 (-16)) 3 := by decide +kernel
theorem d51_28 : dc c49_ 28 (.iload_n 0) 1 := by decide +kernel
theorem d51_29 : dc c49_ 29 (.bipush 16) 2 := by decide +kernel
theorem d51_31 : dc c49_ 31 (.iushr) 1 := by decide +kernel
theorem d51_32 : dc c49_ 32 (.istore_n 0) 1 := by decide +kernel
theorem d51_33 : dc c49_ 33 (.iload_n 0) 1 := by decide +kernel
theorem d51_34 : dc c49_ 34 (.sipush 256) 3 := by decide +kernel
theorem d51_37 : dc c49_ 37 (.if_icmp .lt 11) 3 := by decide +kernel
theorem d51_40 : dc c49_ 40 (.iinc 1 (-8)) 3 := by decide +kernel
theorem d51_43 : dc c49_ 43 (.iload_n 0) 1 := by decide +kernel
theorem d51_44 : dc c49_ 44 (.bipush 8) 2 := by decide +kernel
theorem d51_46 : dc c49_ 46 (.iushr) 1 := by decide +kernel
theorem d51_47 : dc c49_ 47 (.istore_n 0) 1 := by decide +kernel
theorem d51_48 : dc c49_ 48 (.iload_n 0) 1 := by decide +kernel
theorem d51_49 : dc c49_ 49 (.bipush 16) 2 := by decide +kernel
theorem d51_51 : dc c49_ 51 (.if_icmp .lt 10) 3 := by decide +kernel
theorem d51_54 : dc c49_ 54 (.iinc 1 (-4)) 3 := by decide +kernel
theorem d51_57 : dc c49_ 57 (.iload_n 0) 1 := by decide +kernel
theorem d51_58 : dc c49_ 58 (.iconst 4) 1 := by decide +kernel
theorem d51_59 : dc c49_ 59 (.iushr) 1 := by decide +kernel
theorem d51_60 : dc c49_ 60 (.istore_n 0) 1 := by decide +kernel
theorem d51_61 : dc c49_ 61 (.iload_n 0) 1 := by decide +kernel
theorem d51_62 : dc c49_ 62 (.iconst 4) 1 := by decide +kernel
theorem d51_63 : dc c49_ 63 (.if_icmp .lt 10) 3 := by decide +kernel
theorem d51_66 : dc c49_ 66 (.iinc 1 (-2)) 3 := by decide +kernel
theorem d51_69 : dc c49_ 69 (.iload_n 0) 1 := by decide +kernel
theorem d51_70 : dc c49_ 70 (.iconst 2) 1 := by decide +kernel
theorem d51_71 : dc c49_ 71 (.iushr) 1 := by decide +kernel
theorem d51_72 : dc c49_ 72 (.istore_n 0) 1 := by decide +kernel
theorem d51_73 : dc c49_ 73 (.iload_n 1) 1 := by decide +kernel
theorem d51_74 : dc c49_ 74 (.iload_n 0) 1 := by decide +kernel
theorem d51_75 : dc c49_ 75 (.iconst 1) 1 := by decide +kernel
theorem d51_76 : dc c49_ 76 (.iushr) 1 := by decide +kernel
theorem d51_77 : dc c49_ 77 (.isub) 1 := by decide +kernel
theorem d51_78 : dc c49_ 78 (.ireturn) 1 := by decide +kernel
theorem d52_0 : dc c50_ 0 (.lconst 0) 1 := by decide +kernel
theorem d52_1 : dc c50_ 1 (.lstore_n 1) 1 := by decide +kernel
theorem d52_2 : dc c50_ 2 (.iconst 1) 1 := by decide +kernel
theorem d52_3 : dc c50_ 3 (.istore_n 3) 1 := by decide +kernel
theorem d52_4 : dc c50_ 4 (.iload_n 3) 1 := by decide +kernel
theorem d52_5 : dc c50_ 5 (.ifCond .lt 25) 3 := by decide +kernel
theorem d52_8 : dc c50_ 8 (.lload_n 1) 1 := by decide +kernel
theorem d52_9 : dc c50_ 9 (.bipush 32) 2 := by decide +kernel
theorem d52_11 : dc c50_ 11 (.lshl) 1 := by decide +kernel
theorem d52_12 : dc c50_ 12 (.aload_n 0) 1 := by decide +kernel
theorem d52_13 : dc c50_ 13 (.iload_n 3) 1 := by decide +kernel
theorem d52_14 : dc c50_ 14 (.invokevirtual 736) 3 := by decide +kernel
theorem d52_17 : dc c50_ 17 (.i2l) 1 := by decide +kernel
theorem d52_18 : dc c50_ 18 (.ldc2_w 130) 3 := by decide +kernel
theorem d52_21 : dc c50_ 21 (.land) 1 := by decide +kernel
theorem d52_22 : dc c50_ 22 (.ladd) 1 := by decide +kernel
theorem d52_23 : dc c50_ 23 (.lstore_n 1) 1 := by decide +kernel
theorem d52_24 : dc c50_ 24 (.iinc 3 (-1)) 3 := by decide +kernel
theorem d52_27 : dc c50_ 27 (.goto (-23)) 3 := by decide +kernel
theorem d52_30 : dc c50_ 30 (.lload_n 1) 1 := by decide +kernel
theorem d52_31 : dc c50_ 31 (.lreturn) 1 := by decide +kernel
theorem d53_0 : dc c51_ 0 (.iload_n 1) 1 := by decide +kernel
theorem d53_1 : dc c51_ 1 (.ifCond .ge 5) 3 := by decide +kernel
theorem d53_6 : dc c51_ 6 (.iload_n 1) 1 := by decide +kernel
theorem d53_7 : dc c51_ 7 (.aload_n 0) 1 := by decide +kernel
theorem d53_8 : dc c51_ 8 (.getfield 28) 3 := by decide +kernel
theorem d53_11 : dc c51_ 11 (.arraylength) 1 := by decide +kernel
theorem d53_12 : dc c51_ 12 (.if_icmp .lt 8) 3 := by decide +kernel
theorem d53_15 : dc c51_ 15 (.aload_n 0) 1 := by decide +kernel
theorem d53_16 : dc c51_ 16 (.invokevirtual 860) 3 := by decide +kernel
theorem d53_19 : dc c51_ 19 (.ireturn) 1 := by decide +kernel
theorem d53_20 : dc c51_ 20 (.aload_n 0) 1 := by decide +kernel
theorem d53_21 : dc c51_ 21 (.getfield 28) 3 := by decide +kernel
theorem d53_24 : dc c51_ 24 (.aload_n 0) 1 := by decide +kernel
theorem d53_25 : dc c51_ 25 (.getfield 28) 3 := by decide +kernel
theorem d53_28 : dc c51_ 28 (.arraylength) 1 := by decide +kernel
theorem d53_29 : dc c51_ 29 (.iload_n 1) 1 := by decide +kernel
theorem d53_30 : dc c51_ 30 (.isub) 1 := by decide +kernel
theorem d53_31 : dc c51_ 31 (.iconst 1) 1 := by decide +kernel
theorem d53_32 : dc c51_ 32 (.isub) 1 := by decide +kernel
theorem d53_33 : dc c51_ 33 (.iaload) 1 := by decide +kernel
theorem d53_34 : dc c51_ 34 (.istore_n 2) 1 := by decide +kernel
theorem d53_35 : dc c51_ 35 (.aload_n 0) 1 := by decide +kernel
theorem d53_36 : dc c51_ 36 (.getfield 32) 3 := by decide +kernel
theorem d53_39 : dc c51_ 39 (.ifCond .lt 7) 3 := by decide +kernel
theorem d53_42 : dc c51_ 42 (.iload_n 2) 1 := by decide +kernel
theorem d53_43 : dc c51_ 43 (.goto 19) 3 := by decide +kernel
theorem d53_62 : dc c51_ 62 (.ireturn) 1 := by decide +kernel
theorem d54_0 : dc c52_ 0 (.aload_n 0) 1 := by decide +kernel
theorem d54_1 : dc c52_ 1 (.getfield 32) 3 := by decide +kernel
theorem d54_4 : dc c52_ 4 (.ifCond .ge 7) 3 := by decide +kernel
theorem d54_11 : dc c52_ 11 (.iconst 0) 1 := by decide +kernel
theorem d54_12 : dc c52_ 12 (.ireturn) 1 := by decide +kernel
theorem d55_0 : dc c53_ 0 (.iconst 0) 1 := by decide +kernel
theorem d55_1 : dc c53_ 1 (.istore_n 1) 1 := by decide +kernel
theorem d55_2 : dc c53_ 2 (.aload_n 0) 1 := by decide +kernel
theorem d55_3 : dc c53_ 3 (.iconst 0) 1 := by decide +kernel
theorem d55_4 : dc c53_ 4 (.invokevirtual 736) 3 := by decide +kernel
theorem d55_7 : dc c53_ 7 (.istore_n 1) 1 := by decide +kernel
theorem d55_8 : dc c53_ 8 (.iload_n 1) 1 := by decide +kernel
theorem d55_9 : dc c53_ 9 (.ireturn) 1 := by decide +kernel
theorem d56_0 : dc c54_ 0 (.lload_n 0) 1 := by decide +kernel
theorem d56_1 : dc c54_ 1 (.lload_n 2) 1 := by decide +kernel
theorem d56_2 : dc c54_ 2 (.ldc2_w 16) 3 := by decide +kernel
theorem d56_5 : dc c54_ 5 (.invokestatic 18) 3 := by decide +kernel
theorem d56_8 : dc c54_ 8 (.invokestatic 22) 3 := by decide +kernel
theorem d56_11 : dc c54_ 11 (.lstore 4) 2 := by decide +kernel
theorem d56_13 : dc c54_ 13 (.lload_n 2) 1 := by decide +kernel
theorem d56_14 : dc c54_ 14 (.ldc2_w 16) 3 := by decide +kernel
theorem d56_17 : dc c54_ 17 (.invokestatic 25) 3 := by decide +kernel
theorem d56_20 : dc c54_ 20 (.l2i) 1 := by decide +kernel
theorem d56_21 : dc c54_ 21 (.istore 6) 2 := by decide +kernel
theorem d56_23 : dc c54_ 23 (.lload 4) 2 := by decide +kernel
theorem d56_25 : dc c54_ 25 (.iload 6) 2 := by decide +kernel
theorem d56_27 : dc c54_ 27 (.invokestatic 10) 3 := by decide +kernel
theorem d56_30 : dc c54_ 30 (.areturn) 1 := by decide +kernel
theorem d57_0 : dc c55_ 0 (.lload_n 0) 1 := by decide +kernel
theorem d57_1 : dc c55_ 1 (.lload_n 2) 1 := by decide +kernel
theorem d57_2 : dc c55_ 2 (.ldiv) 1 := by decide +kernel
theorem d57_3 : dc c55_ 3 (.lstore 4) 2 := by decide +kernel
theorem d57_5 : dc c55_ 5 (.lload_n 0) 1 := by decide +kernel
theorem d57_6 : dc c55_ 6 (.lload_n 2) 1 := by decide +kernel
theorem d57_7 : dc c55_ 7 (.lxor) 1 := by decide +kernel
theorem d57_8 : dc c55_ 8 (.lconst 0) 1 := by decide +kernel
theorem d57_9 : dc c55_ 9 (.lcmp) 1 := by decide +kernel
theorem d57_10 : dc c55_ 10 (.ifCond .ge 17) 3 := by decide +kernel
theorem d57_27 : dc c55_ 27 (.lload 4) 2 := by decide +kernel
theorem d57_29 : dc c55_ 29 (.lreturn) 1 := by decide +kernel
theorem d58_0 : dc c56_ 0 (.lload_n 0) 1 := by decide +kernel
theorem d58_1 : dc c56_ 1 (.lload_n 2) 1 := by decide +kernel
theorem d58_2 : dc c56_ 2 (.ladd) 1 := by decide +kernel
theorem d58_3 : dc c56_ 3 (.lstore 4) 2 := by decide +kernel
theorem d58_5 : dc c56_ 5 (.lload_n 0) 1 := by decide +kernel
theorem d58_6 : dc c56_ 6 (.lload 4) 2 := by decide +kernel
theorem d58_8 : dc c56_ 8 (.lxor) 1 := by decide +kernel
theorem d58_9 : dc c56_ 9 (.lload_n 2) 1 := by decide +kernel
theorem d58_10 : dc c56_ 10 (.lload 4) 2 := by decide +kernel
theorem d58_12 : dc c56_ 12 (.lxor) 1 := by decide +kernel
theorem d58_13 : dc c56_ 13 (.land) 1 := by decide +kernel
theorem d58_14 : dc c56_ 14 (.lconst 0) 1 := by decide +kernel
theorem d58_15 : dc c56_ 15 (.lcmp) 1 := by decide +kernel
theorem d58_16 : dc c56_ 16 (.ifCond .ge 13) 3 := by decide +kernel
theorem d58_29 : dc c56_ 29 (.lload 4) 2 := by decide +kernel
theorem d58_31 : dc c56_ 31 (.lreturn) 1 := by decide +kernel
theorem d59_0 : dc c57_ 0 (.lload_n 0) 1 := by decide +kernel
theorem d59_1 : dc c57_ 1 (.lload_n 2) 1 := by decide +kernel
theorem d59_2 : dc c57_ 2 (.lrem) 1 := by decide +kernel
theorem d59_3 : dc c57_ 3 (.lstore 4) 2 := by decide +kernel
theorem d59_5 : dc c57_ 5 (.lload_n 0) 1 := by decide +kernel
theorem d59_6 : dc c57_ 6 (.lload_n 2) 1 := by decide +kernel
theorem d59_7 : dc c57_ 7 (.lxor) 1 := by decide +kernel
theorem d59_8 : dc c57_ 8 (.lconst 0) 1 := by decide +kernel
theorem d59_9 : dc c57_ 9 (.lcmp) 1 := by decide +kernel
theorem d59_10 : dc c57_ 10 (.ifCond .ge 15) 3 := by decide +kernel
theorem d59_25 : dc c57_ 25 (.lload 4) 2 := by decide +kernel
theorem d59_27 : dc c57_ 27 (.lreturn) 1 := by decide +kernel
theorem d60_0 : dc c58_ 0 (.lload_n 0) 1 := by decide +kernel
theorem d60_1 : dc c58_ 1 (.iload_n 2) 1 := by decide +kernel
theorem d60_2 : dc c58_ 2 (.i2l) 1 := by decide +kernel
theorem d60_3 : dc c58_ 3 (.lor) 1 := by decide +kernel
theorem d60_4 : dc c58_ 4 (.lconst 0) 1 := by decide +kernel
theorem d60_5 : dc c58_ 5 (.lcmp) 1 := by decide +kernel
theorem d60_6 : dc c58_ 6 (.ifCond .ne 7) 3 := by decide +kernel
theorem d60_13 : dc c58_ 13 (.new 11) 3 := by decide +kernel
theorem d60_16 : dc c58_ 16 (.dup) 1 := by decide +kernel
theorem d60_17 : dc c58_ 17 (.lload_n 0) 1 := by decide +kernel
theorem d60_18 : dc c58_ 18 (.iload_n 2) 1 := by decide +kernel
theorem d60_19 : dc c58_ 19 (.invokespecial 215) 3 := by decide +kernel
theorem d60_22 : dc c58_ 22 (.areturn) 1 := by decide +kernel
theorem d61_0 : dc c59_ 0 (.aload_n 0) 1 := by decide +kernel
theorem d61_1 : dc c59_ 1 (.invokespecial 218) 3 := by decide +kernel
theorem d61_4 : dc c59_ 4 (.aload_n 0) 1 := by decide +kernel
theorem d61_5 : dc c59_ 5 (.lload_n 1) 1 := by decide +kernel
theorem d61_6 : dc c59_ 6 (.putfield 221) 3 := by decide +kernel
theorem d61_9 : dc c59_ 9 (.aload_n 0) 1 := by decide +kernel
theorem d61_10 : dc c59_ 10 (.iload_n 3) 1 := by decide +kernel
theorem d61_11 : dc c59_ 11 (.putfield 224) 3 := by decide +kernel
theorem d61_14 : dc c59_ 14 (.return_) 1 := by decide +kernel
theorem d62_0 : dc c60_ 0 (.aload_n 0) 1 := by decide +kernel
theorem d62_1 : dc c60_ 1 (.getfield 21) 3 := by decide +kernel
theorem d62_4 : dc c60_ 4 (.ifCond .ne 9) 3 := by decide +kernel
theorem d62_13 : dc c60_ 13 (.aload_n 0) 1 := by decide +kernel
theorem d62_14 : dc c60_ 14 (.getfield 11) 3 := by decide +kernel
theorem d62_17 : dc c60_ 17 (.istore_n 1) 1 := by decide +kernel
theorem d62_18 : dc c60_ 18 (.aload_n 0) 1 := by decide +kernel
theorem d62_19 : dc c60_ 19 (.getfield 17) 3 := by decide +kernel
theorem d62_22 : dc c60_ 22 (.iload_n 1) 1 := by decide +kernel
theorem d62_23 : dc c60_ 23 (.iaload) 1 := by decide +kernel
theorem d62_24 : dc c60_ 24 (.ifCond .eq 4) 3 := by decide +kernel
theorem d62_28 : dc c60_ 28 (.iload_n 1) 1 := by decide +kernel
theorem d62_29 : dc c60_ 29 (.aload_n 0) 1 := by decide +kernel
theorem d62_30 : dc c60_ 30 (.getfield 21) 3 := by decide +kernel
theorem d62_33 : dc c60_ 33 (.iadd) 1 := by decide +kernel
theorem d62_34 : dc c60_ 34 (.istore_n 2) 1 := by decide +kernel
theorem d62_35 : dc c60_ 35 (.iinc 1 1) 3 := by decide +kernel
theorem d62_38 : dc c60_ 38 (.iload_n 1) 1 := by decide +kernel
theorem d62_39 : dc c60_ 39 (.iload_n 2) 1 := by decide +kernel
theorem d62_40 : dc c60_ 40 (.if_icmp .ge 12) 3 := by decide +kernel
theorem d62_43 : dc c60_ 43 (.aload_n 0) 1 := by decide +kernel
theorem d62_44 : dc c60_ 44 (.getfield 17) 3 := by decide +kernel
theorem d62_47 : dc c60_ 47 (.iload_n 1) 1 := by decide +kernel
theorem d62_48 : dc c60_ 48 (.iaload) 1 := by decide +kernel
theorem d62_49 : dc c60_ 49 (.ifCond .eq (-14)) 3 := by decide +kernel
theorem d62_52 : dc c60_ 52 (.iload_n 1) 1 := by decide +kernel
theorem d62_53 : dc c60_ 53 (.aload_n 0) 1 := by decide +kernel
theorem d62_54 : dc c60_ 54 (.getfield 11) 3 := by decide +kernel
theorem d62_57 : dc c60_ 57 (.isub) 1 := by decide +kernel
theorem d62_58 : dc c60_ 58 (.istore_n 3) 1 := by decide +kernel
theorem d62_59 : dc c60_ 59 (.aload_n 0) 1 := by decide +kernel
theorem d62_60 : dc c60_ 60 (.dup) 1 := by decide +kernel
theorem d62_61 : dc c60_ 61 (.getfield 21) 3 := by decide +kernel
theorem d62_64 : dc c60_ 64 (.iload_n 3) 1 := by decide +kernel
theorem d62_65 : dc c60_ 65 (.isub) 1 := by decide +kernel
theorem d62_66 : dc c60_ 66 (.putfield 21) 3 := by decide +kernel
theorem d62_69 : dc c60_ 69 (.aload_n 0) 1 := by decide +kernel
theorem d62_70 : dc c60_ 70 (.aload_n 0) 1 := by decide +kernel
theorem d62_71 : dc c60_ 71 (.getfield 21) 3 := by decide +kernel
theorem d62_74 : dc c60_ 74 (.ifCond .ne 7) 3 := by decide +kernel
theorem d62_81 : dc c60_ 81 (.aload_n 0) 1 := by decide +kernel
theorem d62_82 : dc c60_ 82 (.getfield 11) 3 := by decide +kernel
theorem d62_85 : dc c60_ 85 (.iload_n 3) 1 := by decide +kernel
theorem d62_86 : dc c60_ 86 (.iadd) 1 := by decide +kernel
theorem d62_87 : dc c60_ 87 (.putfield 11) 3 := by decide +kernel
theorem d62_90 : dc c60_ 90 (.return_) 1 := by decide +kernel
theorem d63_0 : dc c61_ 0 (.iload_n 1) 1 := by decide +kernel
theorem d63_1 : dc c61_ 1 (.ifCond .ne 9) 3 := by decide +kernel
theorem d63_10 : dc c61_ 10 (.aload_n 0) 1 := by decide +kernel
theorem d63_11 : dc c61_ 11 (.iload_n 1) 1 := by decide +kernel
theorem d63_12 : dc c61_ 12 (.iload_n 2) 1 := by decide +kernel
theorem d63_13 : dc c61_ 13 (.invokestatic 351) 3 := by decide +kernel
theorem d63_16 : dc c61_ 16 (.areturn) 1 := by decide +kernel
theorem d64_0 : dc c62_ 0 (.iload_n 1) 1 := by decide +kernel
theorem d64_1 : dc c62_ 1 (.iload_n 2) 1 := by decide +kernel
theorem d64_2 : dc c62_ 2 (.invokestatic 343) 3 := by decide +kernel
theorem d64_5 : dc c62_ 5 (.iload_n 2) 1 := by decide +kernel
theorem d64_6 : dc c62_ 6 (.iload_n 1) 1 := by decide +kernel
theorem d64_7 : dc c62_ 7 (.isub) 1 := by decide +kernel
theorem d64_8 : dc c62_ 8 (.istore_n 3) 1 := by decide +kernel
theorem d64_9 : dc c62_ 9 (.iload_n 3) 1 := by decide +kernel
theorem d64_10 : dc c62_ 10 (.newarray .int) 2 := by decide +kernel
theorem d64_12 : dc c62_ 12 (.astore 4) 2 := by decide +kernel
theorem d64_14 : dc c62_ 14 (.aload_n 0) 1 := by decide +kernel
theorem d64_15 : dc c62_ 15 (.iload_n 1) 1 := by decide +kernel
theorem d64_16 : dc c62_ 16 (.aload 4) 2 := by decide +kernel
theorem d64_18 : dc c62_ 18 (.iconst 0) 1 := by decide +kernel
theorem d64_19 : dc c62_ 19 (.aload_n 0) 1 := by decide +kernel
theorem d64_20 : dc c62_ 20 (.arraylength) 1 := by decide +kernel
theorem d64_21 : dc c62_ 21 (.iload_n 1) 1 := by decide +kernel
theorem d64_22 : dc c62_ 22 (.isub) 1 := by decide +kernel
theorem d64_23 : dc c62_ 23 (.iload_n 3) 1 := by decide +kernel
theorem d64_24 : dc c62_ 24 (.invokestatic 304) 3 := by decide +kernel
theorem d64_27 : dc c62_ 27 (.invokestatic 150) 3 := by decide +kernel
theorem d64_30 : dc c62_ 30 (.aload 4) 2 := by decide +kernel
theorem d64_32 : dc c62_ 32 (.areturn) 1 := by decide +kernel
theorem d65_0 : dc c63_ 0 (.iload_n 1) 1 := by decide +kernel
theorem d65_1 : dc c63_ 1 (.iload_n 0) 1 := by decide +kernel
theorem d65_2 : dc c63_ 2 (.if_icmp .ge 35) 3 := by decide +kernel
theorem d65_37 : dc c63_ 37 (.return_) 1 := by decide +kernel
theorem d66_0 : dc c64_ 0 (.iconst 0) 1 := by decide +kernel
theorem d66_1 : dc c64_ 1 (.istore_n 2) 1 := by decide +kernel
theorem d66_2 : dc c64_ 2 (.aload_n 0) 1 := by decide +kernel
theorem d66_3 : dc c64_ 3 (.arraylength) 1 := by decide +kernel
theorem d66_4 : dc c64_ 4 (.istore_n 3) 1 := by decide +kernel
theorem d66_5 : dc c64_ 5 (.iload_n 2) 1 := by decide +kernel
theorem d66_6 : dc c64_ 6 (.iload_n 3) 1 := by decide +kernel
theorem d66_7 : dc c64_ 7 (.if_icmp .ge 13) 3 := by decide +kernel
theorem d66_10 : dc c64_ 10 (.aload_n 0) 1 := by decide +kernel
theorem d66_11 : dc c64_ 11 (.iload_n 2) 1 := by decide +kernel
theorem d66_12 : dc c64_ 12 (.iload_n 1) 1 := by decide +kernel
theorem d66_13 : dc c64_ 13 (.iastore) 1 := by decide +kernel
theorem d66_14 : dc c64_ 14 (.iinc 2 1) 3 := by decide +kernel
theorem d66_17 : dc c64_ 17 (.goto (-12)) 3 := by decide +kernel
theorem d66_20 : dc c64_ 20 (.return_) 1 := by decide +kernel
theorem d67_0 : dc c65_ 0 (.aload_n 0) 1 := by decide +kernel
theorem d67_1 : dc c65_ 1 (.iconst 0) 1 := by decide +kernel
theorem d67_2 : dc c65_ 2 (.putfield 41) 3 := by decide +kernel
theorem d67_5 : dc c65_ 5 (.return_) 1 := by decide +kernel
theorem pd0 : parseMethodDescriptor "()V" = some ⟨[], none⟩ := by decide +kernel
theorem pd1 : parseMethodDescriptor "(II)I" = some ⟨[.int, .int], some .int⟩ := by decide +kernel
theorem pd2 : parseMethodDescriptor "(J)Ljava/time/Duration;" = some ⟨[.long], some (.object "java/time/Duration")⟩ := by decide +kernel
theorem pd3 : parseMethodDescriptor "(JJ)I" = some ⟨[.long, .long], some .int⟩ := by decide +kernel
theorem pd4 : parseMethodDescriptor "(Ljava/time/Duration;)I" = some ⟨[(.object "java/time/Duration")], some .int⟩ := by decide +kernel
theorem pd5 : parseMethodDescriptor "(I)Ljava/time/Duration;" = some ⟨[.int], some (.object "java/time/Duration")⟩ := by decide +kernel
theorem pd6 : parseMethodDescriptor "()Ljava/time/Duration;" = some ⟨[], some (.object "java/time/Duration")⟩ := by decide +kernel
theorem pd7 : parseMethodDescriptor "()J" = some ⟨[], some .long⟩ := by decide +kernel
theorem pd8 : parseMethodDescriptor "(I)J" = some ⟨[.int], some .long⟩ := by decide +kernel
theorem pd9 : parseMethodDescriptor "()I" = some ⟨[], some .int⟩ := by decide +kernel
theorem pd10 : parseMethodDescriptor "(Ljava/time/Duration;I)Z" = some ⟨[(.object "java/time/Duration"), .int], some .boolean⟩ := by decide +kernel
theorem pd11 : parseMethodDescriptor "(J)Ljava/math/BigDecimal;" = some ⟨[.long], some (.object "java/math/BigDecimal")⟩ := by decide +kernel
theorem pd12 : parseMethodDescriptor "(I)Ljava/math/BigDecimal;" = some ⟨[.int], some (.object "java/math/BigDecimal")⟩ := by decide +kernel
theorem pd13 : parseMethodDescriptor "(JI)Ljava/math/BigDecimal;" = some ⟨[.long, .int], some (.object "java/math/BigDecimal")⟩ := by decide +kernel
theorem pd14 : parseMethodDescriptor "(JI)J" = some ⟨[.long, .int], some .long⟩ := by decide +kernel
theorem pd15 : parseMethodDescriptor "(JJ)J" = some ⟨[.long, .long], some .long⟩ := by decide +kernel
theorem pd16 : parseMethodDescriptor "(Ljava/math/BigInteger;JII)V" = some ⟨[(.object "java/math/BigInteger"), .long, .int, .int], none⟩ := by decide +kernel
theorem pd17 : parseMethodDescriptor "(JJI)Ljava/math/BigDecimal;" = some ⟨[.long, .long, .int], some (.object "java/math/BigDecimal")⟩ := by decide +kernel
theorem pd18 : parseMethodDescriptor "(JIJI)Ljava/math/BigDecimal;" = some ⟨[.long, .int, .long, .int], some (.object "java/math/BigDecimal")⟩ := by decide +kernel
theorem pd19 : parseMethodDescriptor "(Ljava/math/BigDecimal;)Ljava/math/BigDecimal;" = some ⟨[(.object "java/math/BigDecimal")], some (.object "java/math/BigDecimal")⟩ := by decide +kernel
theorem pd20 : parseMethodDescriptor "()Ljava/math/BigDecimal;" = some ⟨[], some (.object "java/math/BigDecimal")⟩ := by decide +kernel
theorem pd21 : parseMethodDescriptor "(J)I" = some ⟨[.long], some .int⟩ := by decide +kernel
theorem pd22 : parseMethodDescriptor "(J)J" = some ⟨[.long], some .long⟩ := by decide +kernel
theorem pd23 : parseMethodDescriptor "(II)Ljava/math/BigDecimal;" = some ⟨[.int, .int], some (.object "java/math/BigDecimal")⟩ := by decide +kernel
theorem pd24 : parseMethodDescriptor "(J)V" = some ⟨[.long], none⟩ := by decide +kernel
theorem pd25 : parseMethodDescriptor "(J)Ljava/math/BigInteger;" = some ⟨[.long], some (.object "java/math/BigInteger")⟩ := by decide +kernel
theorem pd26 : parseMethodDescriptor "()Ljava/math/BigInteger;" = some ⟨[], some (.object "java/math/BigInteger")⟩ := by decide +kernel
theorem pd27 : parseMethodDescriptor "([I)V" = some ⟨[(.array .int)], none⟩ := by decide +kernel
theorem pd28 : parseMethodDescriptor "(Ljava/math/MutableBigInteger;)I" = some ⟨[(.object "java/math/MutableBigInteger")], some .int⟩ := by decide +kernel
theorem pd29 : parseMethodDescriptor "(ILjava/math/MutableBigInteger;)I" = some ⟨[.int, (.object "java/math/MutableBigInteger")], some .int⟩ := by decide +kernel
theorem pd30 : parseMethodDescriptor "(Ljava/math/MutableBigInteger;Ljava/math/MutableBigInteger;Z)Ljava/math/MutableBigInteger;" = some ⟨[(.object "java/math/MutableBigInteger"), (.object "java/math/MutableBigInteger"), .boolean], some (.object "java/math/MutableBigInteger")⟩ := by decide +kernel
theorem pd31 : parseMethodDescriptor "(Ljava/math/MutableBigInteger;Ljava/math/MutableBigInteger;)Ljava/math/MutableBigInteger;" = some ⟨[(.object "java/math/MutableBigInteger"), (.object "java/math/MutableBigInteger")], some (.object "java/math/MutableBigInteger")⟩ := by decide +kernel
theorem pd32 : parseMethodDescriptor "()[I" = some ⟨[], some (.array .int)⟩ := by decide +kernel
theorem pd33 : parseMethodDescriptor "([II)V" = some ⟨[(.array .int), .int], none⟩ := by decide +kernel
theorem pd34 : parseMethodDescriptor "(I)Ljava/math/BigInteger;" = some ⟨[.int], some (.object "java/math/BigInteger")⟩ := by decide +kernel
theorem pd35 : parseMethodDescriptor "(Ljava/math/BigInteger;)[Ljava/math/BigInteger;" = some ⟨[(.object "java/math/BigInteger")], some (.array (.object "java/math/BigInteger"))⟩ := by decide +kernel
theorem pd36 : parseMethodDescriptor "(I)I" = some ⟨[.int], some .int⟩ := by decide +kernel
theorem pd37 : parseMethodDescriptor "(JI)V" = some ⟨[.long, .int], none⟩ := by decide +kernel
theorem pd38 : parseMethodDescriptor "(JI)Ljava/time/Duration;" = some ⟨[.long, .int], some (.object "java/time/Duration")⟩ := by decide +kernel
theorem pd39 : parseMethodDescriptor "(JJ)Ljava/time/Duration;" = some ⟨[.long, .long], some (.object "java/time/Duration")⟩ := by decide +kernel
theorem pd40 : parseMethodDescriptor "(Ljava/math/BigDecimal;)Ljava/time/Duration;" = some ⟨[(.object "java/math/BigDecimal")], some (.object "java/time/Duration")⟩ := by decide +kernel
theorem pd41 : parseMethodDescriptor "(II)V" = some ⟨[.int, .int], none⟩ := by decide +kernel
theorem pd42 : parseMethodDescriptor "([III)[I" = some ⟨[(.array .int), .int, .int], some (.array .int)⟩ := by decide +kernel
theorem pn0 : plainName "com/example/harbinger/harbinger/Backoff" = true := by first | (simp [plainName, overriddenIn]; done) | decide +kernel
theorem pn1 : plainName "java/time/Duration" = true := by first | (simp [plainName, overriddenIn]; done) | decide +kernel
theorem pn2 : plainName "java/lang/Long" = true := by first | (simp [plainName, overriddenIn]; done) | decide +kernel
theorem pn3 : plainName "com/example/harbinger/harbinger/BackoffFailedPinLaw" = true := by first | (simp [plainName, overriddenIn]; done) | decide +kernel
theorem pn4 : plainName "java/math/BigDecimal" = true := by first | (simp [plainName, overriddenIn]; done) | decide +kernel
theorem pn5 : plainName "java/lang/Number" = true := by first | (simp [plainName, overriddenIn]; done) | decide +kernel
theorem pn6 : plainName "java/math/BigInteger" = true := by first | (simp [plainName, overriddenIn]; done) | decide +kernel
theorem pn7 : plainName "java/math/MutableBigInteger" = true := by first | (simp [plainName, overriddenIn]; done) | decide +kernel
theorem pn8 : plainName "java/lang/Integer" = true := by first | (simp [plainName, overriddenIn]; done) | decide +kernel
theorem pn9 : plainName "java/util/Arrays" = true := by first | (simp [plainName, overriddenIn]; done) | decide +kernel
theorem rm1 (l : Launch) {Z a0} (hw : HW Z a0) (a1 : Addr) (h0 : Heap) (O0 : Old Z Z.heap.size h0) :
    CtrN l Z mn0 prog_3_method_1_code 1 none [] (⟨1, 0, 0, 12⟩ : Room) #[(.ref a1)] h0 [] (fun v h => v = none) := by
  refine CtrN.intro (L0 := #[vr a1]) (plainFor_of_name pn0) O0 (fun _ => rfl) ?_
  intro p e s m below meth c T0 hy hml hret hlk hnm W0
  refine o_aloadN W0 1 (hb hy d1_0) rfl rfl rfl ?_
  refine o_initO W0 (w6 hw) (w7 hw) (w8 hw) (by rw [hml]; rfl) 4 (hb hy d1_1) rfl (by decide) 0 (by exact Nat.le_of_eq rfl) (by decide) ?_
  intro T1 W1
  exact o_ret0 W1 hlk hret (hb hy d1_4) (by decide) (by decide) rfl
theorem rm2 (l : Launch) {Z a0} (hw : HW Z a0)  (h0 : Heap) (O0 : Old Z Z.heap.size h0) :
    CtrN l Z mn1 jdk_29_method_69_code 2 (some .int) [] (⟨0, 0, 0, 0⟩ : Room) #[iZ, (.int 4)] h0 [] (fun v h => v = some iZ) := by
  refine CtrN.intro (L0 := #[vi 0, vi 4]) (Jvm.Free.JP.mathPlain rfl (by decide +kernel)) O0 (fun _ => rfl) ?_
  intro p e s m below meth c T0 hy hml hret hlk hnm W0
  refine o_iloadN W0 1 (hb hy d5_0) rfl rfl <| o_iloadN W0 2 (hb hy d5_1) rfl rfl <| o_icmpN W0 5 (hb hy d5_2) (XT.ii_gt_f (by decide)) rfl <| o_iloadN W0 6 (hb hy d5_5) rfl rfl <| o_goto W0 10 (hb hy d5_6) (by decide) rfl ?_
  exact o_retI W0 hlk hret (hb hy d5_10) (by decide) (by decide) rfl
theorem rm3 (l : Launch) {Z a0} (hw : HW Z a0) (gO1 : Addr) (h0 : Heap) (O0 : Old Z Z.heap.size h0) :
    CtrN l Z mn2 jdk_2316_method_44_code 3 (some (.object s2)) [] (⟨0, 0, 0, 0⟩ : Room) #[(.ref gO1), (.long 1)] h0 [] (fun v h => v = some (.ref gO1)) := by
  refine CtrN.intro (L0 := #[vr gO1, .val (.long 1), .second]) (plainFor_of_name pn1) O0 (fun _ => rfl) ?_
  intro p e s m below meth c T0 hy hml hret hlk hnm W0
  refine o_lloadN W0 1 (hb hy d6_0) rfl rfl <| o_lconst W0 (v := 0) 2 (hb hy d6_1) (by decide) rfl <| o_lcmp W0 (v := 1) 3 (hb hy d6_2) (by decide) rfl <| o_ifY W0 10 (hb hy d6_3) (XT.i0_ne_t (by decide)) (by decide) rfl <| o_lloadN W0 11 (hb hy d6_10) rfl rfl <| o_lconst W0 (v := 1) 12 (hb hy d6_11) (by decide) rfl ?_
  refine o_lcmp W0 (v := 0) 13 (hb hy d6_12) (by decide) rfl <| o_ifN W0 16 (hb hy d6_13) (XT.i0_ne_f (by decide)) rfl <| o_aloadN W0 17 (hb hy d6_16) rfl rfl rfl ?_
  exact o_retA W0 hlk (v := (.ref gO1)) hret rfl rfl (hb hy d6_17) (by decide) (by decide) rfl
theorem rm4 (l : Launch) {Z a0} (hw : HW Z a0)  (h0 : Heap) (O0 : Old Z Z.heap.size h0) :
    CtrN l Z mn3 jdk_35_method_42_code 4 (some .int) [] (⟨0, 0, 0, 0⟩ : Room) #[(.long 1), (.long 10)] h0 [] (fun v h => v = some (.int (-1 : Int32))) := by
  refine CtrN.intro (L0 := #[.val (.long 1), .second, .val (.long 10), .second]) (plainFor_of_name pn2) O0 (fun _ => rfl) ?_
  intro p e s m below meth c T0 hy hml hret hlk hnm W0
  refine o_lloadN W0 1 (hb hy d8_0) rfl rfl <| o_lloadN W0 2 (hb hy d8_1) rfl rfl <| o_lcmp W0 (v := (-1 : Int32)) 3 (hb hy d8_2) (by decide) rfl <| o_ifN W0 6 (hb hy d8_3) (XT.i0_ge_f (by decide)) rfl <| o_iconst W0 (v := (-1 : Int32)) 7 (hb hy d8_6) (by decide) rfl <| o_goto W0 21 (hb hy d8_7) (by decide) rfl ?_
  exact o_retI W0 hlk hret (hb hy d8_21) (by decide) (by decide) rfl
theorem rm5 (l : Launch) {Z a0} (hw : HW Z a0) (gO1 gO2 : Addr) (h0 : Heap) (O0 : Old Z Z.heap.size h0) (z0 : Fld Z Z.heap gO1 s2 "seconds" "J" (.long 1)) (z1 : Fld Z Z.heap gO2 s2 "seconds" "J" (.long 10)) :
    CtrN l Z mn4 jdk_2316_method_66_code 3 (some .int) [] (⟨1, 0, 0, 15⟩ : Room) #[(.ref gO1), (.ref gO2)] h0 [] (fun v h => v = some (.int (-1 : Int32))) := by
  refine CtrN.intro (L0 := #[vr gO1, vr gO2, un]) (plainFor_of_name pn1) O0 (fun _ => rfl) ?_
  intro p e s m below meth c T0 hy hml hret hlk hnm W0
  refine o_aloadN W0 1 (hb hy d7_0) rfl rfl rfl ?_
  refine o_getF W0 (w38 hw) Via.refl (z0.ext W0.ox) 4 (hb hy d7_1) rfl ?_
  intro T1 W1
  refine o_aloadN W1 5 (hb hy d7_4) rfl rfl rfl ?_
  refine o_getF W1 (w38 hw) Via.refl (z1.ext W1.ox) 8 (hb hy d7_5) rfl ?_
  intro T2 W2
  refine o_staticC W2 (w40 hw) (w41 hw) (w42 hw) (w43 hw) (by decide) (rm4 l hw  h0 W2.old ) 0 0 0 (by decide) (by rw [hml]; rfl) (lenOf pd3 rfl) [] rfl rfl 11 (hb hy d7_8) rfl rfl rfl all0 tri ?_
  intro v3 T3 h3 lo3 W3 K3 q3
  obtain rfl := q3.2.2
  show Gl _ _ _ _ _ _ _ _ [(.int (-1 : Int32))]
  refine o_istoreN W3 (L' := #[vr gO1, vr gO2, vi (-1 : Int32)]) 12 (hb hy d7_11) rfl rfl <| o_iloadN W3 13 (hb hy d7_12) rfl rfl <| o_ifN W3 16 (hb hy d7_13) (XT.i0_eq_f (by decide)) rfl <| o_iloadN W3 17 (hb hy d7_16) rfl rfl ?_
  exact o_retI W3 hlk hret (hb hy d7_17) (by decide) (by decide) rfl
theorem rm6 (l : Launch) {Z a0} (hw : HW Z a0) (gO1 gO2 : Addr) (h0 : Heap) (O0 : Old Z Z.heap.size h0) (z0 : Sta Z Z.heap s6 "FIRST" s9 (.ref gO1)) (XgO1 : Exa Z Z.heap gO1 s2) (z1 : Sta Z Z.heap s6 "MAX" s9 (.ref gO2)) (z2 : Fld Z Z.heap gO1 s2 "seconds" "J" (.long 1)) (z3 : Fld Z Z.heap gO2 s2 "seconds" "J" (.long 10)) :
    CtrN l Z mn5 prog_3_method_2_code 2 (some (.object s2)) [] (⟨2, 0, 0, 29⟩ : Room) #[(.int 1)] h0 [] (fun v h => v = some (.ref gO1)) := by
  refine CtrN.intro (L0 := #[vi 1, un]) (plainFor_of_name pn0) O0 (fun _ => rfl) ?_
  intro p e s m below meth c T0 hy hml hret hlk hnm W0
  refine o_iloadN W0 1 (hb hy d4_0) rfl rfl <| o_iconst W0 (v := 1) 2 (hb hy d4_1) rfl rfl <| o_icmpY W0 19 (hb hy d4_2) (XT.ii_ge_t (by decide)) (by decide) rfl ?_
  refine o_getS W0 (w19 hw) Via.refl (z0.ext W0.ox) 22 (hb hy d4_19) rfl ?_
  intro T1 W1
  refine o_lconst W1 (v := 1) 23 (hb hy d4_22) (by decide) rfl <| o_iloadN W1 24 (hb hy d4_23) rfl rfl <| o_iconst W1 (v := 1) 25 (hb hy d4_24) rfl rfl <| o_isub W1 (v := 0) 26 (hb hy d4_25) (by decide) rfl <| o_iconst W1 (v := 4) 27 (hb hy d4_26) rfl rfl ?_
  refine o_staticC W1 (w21 hw) (w22 hw) (w23 hw) (w24 hw) (by decide) (rm2 l hw  h0 W1.old ) 3 0 0 (by decide) (by rw [hml]; rfl) (lenOf pd1 rfl) [(.long 1), (.ref gO1)] rfl rfl 30 (hb hy d4_27) rfl rfl rfl all0 tri ?_
  intro v2 T2 h2 lo2 W2 K2 q2
  obtain rfl := q2.2.2
  show Gl _ _ _ _ _ _ _ _ [iZ, (.long 1), (.ref gO1)]
  refine o_lshl W2 (v := 1) 31 (hb hy d4_30) (by decide) rfl ?_
  refine o_virtualC W2 (w25 hw) (w26 hw) (o_nf W2 rfl (w28 hw)) (w28 hw) (w27 hw) (by decide) (XgO1.ext W2.ox) (w30 hw) (w29 hw) (rm3 l hw gO1 h2 W2.old ) 0 0 0 (by decide) (by rw [hml]; rfl) (lenOf pd2 rfl) [] rfl rfl 34 (hb hy d4_31) rfl rfl rfl all0 tri ?_
  intro v3 T3 h3 lo3 W3 K3 q3
  obtain rfl := q3.2.2
  show Gl _ _ _ _ _ _ _ _ [(.ref gO1)]
  refine o_astoreN W3 (L' := #[vi 1, vr gO1]) 35 (hb hy d4_34) rfl rfl rfl <| o_aloadN W3 36 (hb hy d4_35) rfl rfl rfl ?_
  refine o_getS W3 (w31 hw) Via.refl (z1.ext W3.ox) 39 (hb hy d4_36) rfl ?_
  intro T4 W4
  refine o_virtualC W4 (w33 hw) (w34 hw) (o_nf W4 rfl (w36 hw)) (w36 hw) (w35 hw) (by decide) (XgO1.ext W4.ox) (w37 hw) (w29 hw) (rm5 l hw gO1 gO2 h3 W4.old z2 z3) 0 0 0 (by decide) (by rw [hml]; rfl) (lenOf pd4 rfl) [] rfl rfl 42 (hb hy d4_39) rfl rfl rfl all0 tri ?_
  intro v5 T5 h5 lo5 W5 K5 q5
  obtain rfl := q5.2.2
  show Gl _ _ _ _ _ _ _ _ [(.int (-1 : Int32))]
  refine o_ifN W5 45 (hb hy d4_42) (XT.i0_ge_f (by decide)) rfl <| o_aloadN W5 46 (hb hy d4_45) rfl rfl rfl <| o_goto W5 52 (hb hy d4_46) (by decide) rfl ?_
  exact o_retA W5 hlk (v := (.ref gO1)) hret rfl rfl (hb hy d4_52) (by decide) (by decide) rfl
theorem rm7 (l : Launch) {Z a0} (hw : HW Z a0) (gO1 gO2 a1 : Addr) (h0 : Heap) (O0 : Old Z Z.heap.size h0) (z0 : Fld Z h0 a1 s6 s11 "I" iZ) (z1 : Exa Z h0 a1 s6) (z2 : Z.heap.size ≤ a1) (z3 : Sta Z Z.heap s6 "FIRST" s9 (.ref gO1)) (XgO1 : Exa Z Z.heap gO1 s2) (z4 : Sta Z Z.heap s6 "MAX" s9 (.ref gO2)) (z5 : Fld Z Z.heap gO1 s2 "seconds" "J" (.long 1)) (z6 : Fld Z Z.heap gO2 s2 "seconds" "J" (.long 10)) :
    CtrN l Z mn6 prog_3_method_3_code 1 (some (.object s2)) [] (⟨3, 0, 0, 42⟩ : Room) #[(.ref a1)] h0 [a1] (fun v h => Fld Z h a1 s6 s11 "I" (.int 1) ∧ v = some (.ref gO1)) := by
  refine CtrN.intro (L0 := #[vr a1]) (plainFor_of_name pn0) O0 (fun _ => rfl) ?_
  intro p e s m below meth c T0 hy hml hret hlk hnm W0
  refine o_aloadN W0 1 (hb hy d3_0) rfl rfl rfl <| o_dup W0 2 (hb hy d3_1) rfl rfl ?_
  refine o_getF W0 (w14 hw) Via.refl z0 5 (hb hy d3_2) rfl ?_
  intro T1 W1
  refine o_iconst W1 (v := 1) 6 (hb hy d3_5) rfl rfl <| o_iadd W1 (v := 1) 7 (hb hy d3_6) (by decide) rfl ?_
  refine o_putF W1 (w14 hw) Via.refl z0 z1 (Or.inl (w15 hw)) (w1 hw) (ty := .int) (v' := (.int 1)) (by decide) rfl rfl z2 m0 tri 10 (hb hy d3_7) rfl ?_
  intro T2 h2 lo2 W2 R2
  have F2 := z0.same R2
  refine o_aloadN W2 11 (hb hy d3_10) rfl rfl rfl ?_
  refine o_getF W2 (w14 hw) Via.refl F2 14 (hb hy d3_11) rfl ?_
  intro T3 W3
  refine o_staticC W3 (w16 hw) (w17 hw) (w2 hw) (w18 hw) (by decide) (rm6 l hw gO1 gO2 h2 W3.old z3 XgO1 z4 z5 z6) 0 0 0 (by decide) (by rw [hml]; rfl) (lenOf pd5 rfl) [] rfl rfl 17 (hb hy d3_14) rfl rfl rfl all0 tri ?_
  intro v4 T4 h4 lo4 W4 K4 q4
  obtain rfl := q4.2.2
  show Gl _ _ _ _ _ _ _ _ [(.ref gO1)]
  have c5 := (F2.keep K4 nin0)
  have c6 := ((z1.wr R2).keep K4)
  exact o_retA W4 hlk (v := (.ref gO1)) hret rfl rfl (hb hy d3_17) (by decide) (by decide) ⟨c5, rfl⟩
theorem rm8 (l : Launch) {Z a0} (hw : HW Z a0) (gO1 : Addr) (h0 : Heap) (O0 : Old Z Z.heap.size h0) (z0 : Fld Z Z.heap gO1 s2 "seconds" "J" (.long 1)) :
    CtrN l Z mn7 jdk_2316_method_23_code 1 (some .long) [] (⟨0, 0, 0, 0⟩ : Room) #[(.ref gO1)] h0 [] (fun v h => v = some (.long 1)) := by
  refine CtrN.intro (L0 := #[vr gO1]) (plainFor_of_name pn1) O0 (fun _ => rfl) ?_
  intro p e s m below meth c T0 hy hml hret hlk hnm W0
  refine o_aloadN W0 1 (hb hy d10_0) rfl rfl rfl ?_
  refine o_getF W0 (w38 hw) Via.refl (z0.ext W0.ox) 4 (hb hy d10_1) rfl ?_
  intro T1 W1
  exact o_retJ W1 hlk hret (hb hy d10_4) (by decide) (by decide) rfl
theorem rm9 (l : Launch) {Z a0} (hw : HW Z a0)  (h0 : Heap) (O0 : Old Z Z.heap.size h0) :
    CtrN l Z mn8 method_2_code 1 (some .long) [] (⟨0, 0, 0, 0⟩ : Room) #[(.int 1)] h0 [] (fun v h => v = some (.long 1)) := by
  refine CtrN.intro (L0 := #[vi 1]) (plainFor_of_name pn3) O0 (fun _ => rfl) ?_
  intro p e s m below meth c T0 hy hml hret hlk hnm W0
  refine o_iloadN W0 1 (hb hy d11_0) rfl rfl <| o_iconst W0 (v := 1) 2 (hb hy d11_1) rfl rfl <| o_icmpN W0 5 (hb hy d11_2) (XT.ii_ne_f (by decide)) rfl <| o_lconst W0 (v := 1) 6 (hb hy d11_5) (by decide) rfl ?_
  exact o_retJ W0 hlk hret (hb hy d11_6) (by decide) (by decide) rfl
theorem rm10 (l : Launch) {Z a0} (hw : HW Z a0) (gO1 : Addr) (h0 : Heap) (O0 : Old Z Z.heap.size h0) (z0 : Fld Z Z.heap gO1 s2 "nanos" "I" iZ) :
    CtrN l Z mn9 jdk_2316_method_24_code 1 (some .int) [] (⟨0, 0, 0, 0⟩ : Room) #[(.ref gO1)] h0 [] (fun v h => v = some iZ) := by
  refine CtrN.intro (L0 := #[vr gO1]) (plainFor_of_name pn1) O0 (fun _ => rfl) ?_
  intro p e s m below meth c T0 hy hml hret hlk hnm W0
  refine o_aloadN W0 1 (hb hy d12_0) rfl rfl rfl ?_
  refine o_getF W0 (w61 hw) Via.refl (z0.ext W0.ox) 4 (hb hy d12_1) rfl ?_
  intro T1 W1
  exact o_retI W1 hlk hret (hb hy d12_4) (by decide) (by decide) rfl
theorem rm11 (l : Launch) {Z a0} (hw : HW Z a0) (gO1 : Addr) (h0 : Heap) (O0 : Old Z Z.heap.size h0) (z0 : Fld Z Z.heap gO1 s2 "seconds" "J" (.long 1)) (XgO1 : Exa Z Z.heap gO1 s2) (z1 : Fld Z Z.heap gO1 s2 "nanos" "I" iZ) :
    CtrN l Z mn10 method_3_code 2 (some .boolean) [] (⟨1, 0, 0, 14⟩ : Room) #[(.ref gO1), (.int 1)] h0 [] (fun v h => v = some (.int 1)) := by
  refine CtrN.intro (L0 := #[vr gO1, vi 1]) (plainFor_of_name pn3) O0 (fun _ => rfl) ?_
  intro p e s m below meth c T0 hy hml hret hlk hnm W0
  refine o_aloadN W0 1 (hb hy d9_0) rfl rfl rfl ?_
  refine o_ifnullN W0 4 (hb hy d9_1) rfl ?_
  refine o_aloadN W0 5 (hb hy d9_4) rfl rfl rfl ?_
  refine o_virtualC W0 (w48 hw) (w49 hw) (o_nf W0 rfl (w51 hw)) (w51 hw) (w50 hw) (by decide) (XgO1.ext W0.ox) (w52 hw) (w29 hw) (rm8 l hw gO1 h0 W0.old z0) 0 0 0 (by decide) (by rw [hml]; rfl) (lenOf pd7 rfl) [] rfl rfl 8 (hb hy d9_5) rfl rfl rfl all0 tri ?_
  intro v1 T1 h1 lo1 W1 K1 q1
  obtain rfl := q1.2.2
  show Gl _ _ _ _ _ _ _ _ [(.long 1)]
  refine o_iloadN W1 9 (hb hy d9_8) rfl rfl ?_
  refine o_staticC W1 (w53 hw) (w54 hw) (w46 hw) (w55 hw) (by decide) (rm9 l hw  h1 W1.old ) 2 0 0 (by decide) (by rw [hml]; rfl) (lenOf pd8 rfl) [(.long 1)] rfl rfl 12 (hb hy d9_9) rfl rfl rfl all0 tri ?_
  intro v2 T2 h2 lo2 W2 K2 q2
  obtain rfl := q2.2.2
  show Gl _ _ _ _ _ _ _ _ [(.long 1), (.long 1)]
  refine o_lcmp W2 (v := 0) 13 (hb hy d9_12) (by decide) rfl <| o_ifN W2 16 (hb hy d9_13) (XT.i0_ne_f (by decide)) rfl <| o_aloadN W2 17 (hb hy d9_16) rfl rfl rfl ?_
  refine o_virtualC W2 (w56 hw) (w57 hw) (o_nf W2 rfl (w59 hw)) (w59 hw) (w58 hw) (by decide) (XgO1.ext W2.ox) (w60 hw) (w29 hw) (rm10 l hw gO1 h2 W2.old z1) 0 0 0 (by decide) (by rw [hml]; rfl) (lenOf pd9 rfl) [] rfl rfl 20 (hb hy d9_17) rfl rfl rfl all0 tri ?_
  intro v3 T3 h3 lo3 W3 K3 q3
  obtain rfl := q3.2.2
  show Gl _ _ _ _ _ _ _ _ [iZ]
  refine o_ifN W3 23 (hb hy d9_20) (XT.i0_ne_f (by decide)) rfl <| o_iconst W3 (v := 1) 24 (hb hy d9_23) rfl rfl <| o_goto W3 28 (hb hy d9_24) (by decide) rfl ?_
  exact o_retN W3 hlk (t := .boolean) hret (by simp) (z' := (1 : Int32)) (by decide) (hb hy d9_28) (by decide) (by decide) rfl
theorem rm12 (l : Launch) {Z a0} (hw : HW Z a0)  (h0 : Heap) (O0 : Old Z Z.heap.size h0) :
    CtrN l Z mn1 jdk_29_method_69_code 2 (some .int) [] (⟨0, 0, 0, 0⟩ : Room) #[(.int 1), (.int 4)] h0 [] (fun v h => v = some (.int 1)) := by
  refine CtrN.intro (L0 := #[vi 1, vi 4]) (Jvm.Free.JP.mathPlain rfl (by decide +kernel)) O0 (fun _ => rfl) ?_
  intro p e s m below meth c T0 hy hml hret hlk hnm W0
  refine o_iloadN W0 1 (hb hy d5_0) rfl rfl <| o_iloadN W0 2 (hb hy d5_1) rfl rfl <| o_icmpN W0 5 (hb hy d5_2) (XT.ii_gt_f (by decide)) rfl <| o_iloadN W0 6 (hb hy d5_5) rfl rfl <| o_goto W0 10 (hb hy d5_6) (by decide) rfl ?_
  exact o_retI W0 hlk hret (hb hy d5_10) (by decide) (by decide) rfl
theorem rm13 (l : Launch) {Z a0} (hw : HW Z a0) (gO3 gO4 gO7 gO10 gO13 gO16 gO19 gO22 gO25 gO28 gO31 gO34 : Addr) (z0 : ClassId) (h0 : Heap) (O0 : Old Z Z.heap.size h0) (z1 : Sta Z Z.heap s0 s12 s7 (.ref gO3)) (VgO3 : Arv Z Z.heap gO3 z0 (.object s0) (11 : Int32) [(.ref gO4), (.ref gO7), (.ref gO10), (.ref gO13), (.ref gO16), (.ref gO19), (.ref gO22), (.ref gO25), (.ref gO28), (.ref gO31), (.ref gO34)] .null) :
    CtrN l Z mn11 jdk_17_method_21_code 2 (some (.object s0)) [] (⟨0, 0, 0, 0⟩ : Room) #[(.long 1)] h0 [] (fun v h => v = some (.ref gO7)) := by
  refine CtrN.intro (L0 := #[.val (.long 1), .second]) (plainFor_of_name pn4) O0 (fun _ => rfl) ?_
  intro p e s m below meth c T0 hy hml hret hlk hnm W0
  refine o_lloadN W0 1 (hb hy d14_0) rfl rfl <| o_lconst W0 (v := 0) 2 (hb hy d14_1) (by decide) rfl <| o_lcmp W0 (v := 1) 3 (hb hy d14_2) (by decide) rfl <| o_ifN W0 6 (hb hy d14_3) (XT.i0_lt_f (by decide)) rfl <| o_lloadN W0 7 (hb hy d14_6) rfl rfl ?_
  refine o_getS W0 (w72 hw) Via.refl (z1.ext W0.ox) 10 (hb hy d14_7) rfl ?_
  intro T1 W1
  refine o_len W1 (VgO3.ext W1.ox) 11 (hb hy d14_10) rfl <| o_i2l W1 (v := 11) 12 (hb hy d14_11) (by decide) rfl <| o_lcmp W1 (v := (-1 : Int32)) 13 (hb hy d14_12) (by decide) rfl <| o_ifN W1 16 (hb hy d14_13) (XT.i0_ge_f (by decide)) rfl ?_
  refine o_getS W1 (w72 hw) Via.refl (z1.ext W1.ox) 19 (hb hy d14_16) rfl ?_
  intro T2 W2
  refine o_lloadN W2 20 (hb hy d14_19) rfl rfl <| o_l2i W2 (v := 1) 21 (hb hy d14_20) (by decide) rfl ?_
  refine o_aaload W2 (VgO3.ext W2.ox) rfl (v := (.ref gO7)) (i := 1) (by decide) (by decide) (by decide) rfl 22 (hb hy d14_21) rfl ?_
  exact o_retA W2 hlk (v := (.ref gO7)) hret rfl rfl (hb hy d14_22) (by decide) (by decide) rfl
theorem rm14 (l : Launch) {Z a0} (hw : HW Z a0) (gO37 gO38 gO41 gO44 gO47 gO50 gO53 gO56 gO59 gO62 gO65 gO68 gO71 gO74 gO77 gO80 gO83 : Addr) (z0 : ClassId) (h0 : Heap) (O0 : Old Z Z.heap.size h0) (z1 : Sta Z Z.heap s0 s16 s7 (.ref gO37)) (VgO37 : Arv Z Z.heap gO37 z0 (.object s0) (16 : Int32) [(.ref gO38), (.ref gO41), (.ref gO44), (.ref gO47), (.ref gO50), (.ref gO53), (.ref gO56), (.ref gO59), (.ref gO62), (.ref gO65), (.ref gO68), (.ref gO71), (.ref gO74), (.ref gO77), (.ref gO80), (.ref gO83)] .null) :
    CtrN l Z mn12 jdk_17_method_24_code 1 (some (.object s0)) [] (⟨0, 0, 0, 0⟩ : Room) #[(.int 9)] h0 [] (fun v h => v = some (.ref gO65)) := by
  refine CtrN.intro (L0 := #[vi 9]) (plainFor_of_name pn4) O0 (fun _ => rfl) ?_
  intro p e s m below meth c T0 hy hml hret hlk hnm W0
  refine o_iloadN W0 1 (hb hy d16_0) rfl rfl <| o_ifN W0 4 (hb hy d16_1) (XT.i0_lt_f (by decide)) rfl <| o_iloadN W0 5 (hb hy d16_4) rfl rfl ?_
  refine o_getS W0 (w79 hw) Via.refl (z1.ext W0.ox) 8 (hb hy d16_5) rfl ?_
  intro T1 W1
  refine o_len W1 (VgO37.ext W1.ox) 9 (hb hy d16_8) rfl <| o_icmpN W1 12 (hb hy d16_9) (XT.ii_ge_f (by decide)) rfl ?_
  refine o_getS W1 (w79 hw) Via.refl (z1.ext W1.ox) 15 (hb hy d16_12) rfl ?_
  intro T2 W2
  refine o_iloadN W2 16 (hb hy d16_15) rfl rfl ?_
  refine o_aaload W2 (VgO37.ext W2.ox) rfl (v := (.ref gO65)) (i := 9) (by decide) (by decide) (by decide) rfl 17 (hb hy d16_16) rfl ?_
  exact o_retA W2 hlk (v := (.ref gO65)) hret rfl rfl (hb hy d16_17) (by decide) (by decide) rfl
theorem rm15 (l : Launch) {Z a0} (hw : HW Z a0) (gO37 gO38 gO41 gO44 gO47 gO50 gO53 gO56 gO59 gO62 gO65 gO68 gO71 gO74 gO77 gO80 gO83 : Addr) (z0 : ClassId) (h0 : Heap) (O0 : Old Z Z.heap.size h0) (z1 : Sta Z Z.heap s0 s16 s7 (.ref gO37)) (VgO37 : Arv Z Z.heap gO37 z0 (.object s0) (16 : Int32) [(.ref gO38), (.ref gO41), (.ref gO44), (.ref gO47), (.ref gO50), (.ref gO53), (.ref gO56), (.ref gO59), (.ref gO62), (.ref gO65), (.ref gO68), (.ref gO71), (.ref gO74), (.ref gO77), (.ref gO80), (.ref gO83)] .null) :
    CtrN l Z mn13 jdk_17_method_20_code 3 (some (.object s0)) [] (⟨1, 0, 0, 12⟩ : Room) #[(.long 0), (.int 9)] h0 [] (fun v h => v = some (.ref gO65)) := by
  refine CtrN.intro (L0 := #[.val (.long 0), .second, vi 9]) (plainFor_of_name pn4) O0 (fun _ => rfl) ?_
  intro p e s m below meth c T0 hy hml hret hlk hnm W0
  refine o_iloadN W0 1 (hb hy d15_0) rfl rfl <| o_ifY W0 9 (hb hy d15_1) (XT.i0_ne_t (by decide)) (by decide) rfl <| o_lloadN W0 10 (hb hy d15_9) rfl rfl <| o_lconst W0 (v := 0) 11 (hb hy d15_10) (by decide) rfl <| o_lcmp W0 (v := 0) 12 (hb hy d15_11) (by decide) rfl <| o_ifN W0 15 (hb hy d15_12) (XT.i0_ne_f (by decide)) rfl ?_
  refine o_iloadN W0 16 (hb hy d15_15) rfl rfl ?_
  refine o_staticC W0 (w76 hw) (w77 hw) (w70 hw) (w78 hw) (by decide) (rm14 l hw gO37 gO38 gO41 gO44 gO47 gO50 gO53 gO56 gO59 gO62 gO65 gO68 gO71 gO74 gO77 gO80 gO83 z0 h0 W0.old z1 VgO37) 0 0 0 (by decide) (by rw [hml]; rfl) (lenOf pd12 rfl) [] rfl rfl 19 (hb hy d15_16) rfl rfl rfl all0 tri ?_
  intro v1 T1 h1 lo1 W1 K1 q1
  obtain rfl := q1.2.2
  show Gl _ _ _ _ _ _ _ _ [(.ref gO65)]
  exact o_retA W1 hlk (v := (.ref gO65)) hret rfl rfl (hb hy d15_19) (by decide) (by decide) rfl
theorem rm16 (l : Launch) {Z a0} (hw : HW Z a0)  (h0 : Heap) (O0 : Old Z Z.heap.size h0) :
    CtrN l Z mn14 jdk_17_method_113_code 5 (some .int) [] (⟨0, 0, 0, 0⟩ : Room) #[(.long 1), (.long 9)] h0 [] (fun v h => v = some (.int 9)) := by
  refine CtrN.intro (L0 := #[.val (.long 1), .second, .val (.long 9), .second, un]) (plainFor_of_name pn4) O0 (fun _ => rfl) ?_
  intro p e s m below meth c T0 hy hml hret hlk hnm W0
  refine o_lloadN W0 1 (hb hy d19_0) rfl rfl <| o_l2i W0 (v := 9) 2 (hb hy d19_1) (by decide) rfl <| o_istore W0 (L' := #[.val (.long 1), .second, .val (.long 9), .second, vi 9]) 4 (hb hy d19_2) rfl rfl <| o_iload W0 6 (hb hy d19_4) rfl rfl <| o_i2l W0 (v := 9) 7 (hb hy d19_6) (by decide) rfl <| o_lloadN W0 8 (hb hy d19_7) rfl rfl ?_
  refine o_lcmp W0 (v := 0) 9 (hb hy d19_8) (by decide) rfl <| o_ifY W0 59 (hb hy d19_9) (XT.i0_eq_t (by decide)) (by decide) rfl <| o_iload W0 61 (hb hy d19_59) rfl rfl ?_
  exact o_retI W0 hlk hret (hb hy d19_61) (by decide) (by decide) rfl
theorem rm17 (l : Launch) {Z a0} (hw : HW Z a0) (gO86 gO87 : Addr) (z0 z1 : ClassId) (h0 : Heap) (O0 : Old Z Z.heap.size h0) (z2 : Sta Z Z.heap s0 s13 "[J" (.ref gO86)) (z3 : Sta Z Z.heap s0 s14 "[J" (.ref gO87)) (VgO86 : Arv Z Z.heap gO86 z0 .long (19 : Int32) [(.long 1), (.long 10), (.long 100), (.long 1000), (.long 10000), (.long 100000), (.long 1000000), (.long 10000000), (.long 100000000), (.long 1000000000), (.long 10000000000), (.long 100000000000), (.long 1000000000000), (.long 10000000000000), (.long 100000000000000), (.long 1000000000000000), (.long 10000000000000000), (.long 100000000000000000), (.long 1000000000000000000)] (.long 0)) (VgO87 : Arv Z Z.heap gO87 z1 .long (19 : Int32) [(.long 9223372036854775807), (.long 922337203685477580), (.long 92233720368547758), (.long 9223372036854775), (.long 922337203685477), (.long 92233720368547), (.long 9223372036854), (.long 922337203685), (.long 92233720368), (.long 9223372036), (.long 922337203), (.long 92233720), (.long 9223372), (.long 922337), (.long 92233), (.long 9223), (.long 922), (.long 92), (.long 9)] (.long 0)) :
    CtrN l Z mn15 jdk_17_method_97_code 7 (some .long) [] (⟨0, 0, 0, 0⟩ : Room) #[(.long 1), (.int 9)] h0 [] (fun v h => v = some (.long 1000000000)) := by
  refine CtrN.intro (L0 := #[.val (.long 1), .second, vi 9, un, un, un, un]) (plainFor_of_name pn4) O0 (fun _ => rfl) ?_
  intro p e s m below meth c T0 hy hml hret hlk hnm W0
  refine o_lloadN W0 1 (hb hy d20_0) rfl rfl <| o_lconst W0 (v := 0) 2 (hb hy d20_1) (by decide) rfl <| o_lcmp W0 (v := 1) 3 (hb hy d20_2) (by decide) rfl <| o_ifN W0 6 (hb hy d20_3) (XT.i0_eq_f (by decide)) rfl <| o_iloadN W0 7 (hb hy d20_6) rfl rfl <| o_ifY W0 12 (hb hy d20_7) (XT.i0_gt_t (by decide)) (by decide) rfl ?_
  refine o_getS W0 (w99 hw) Via.refl (z2.ext W0.ox) 15 (hb hy d20_12) rfl ?_
  intro T1 W1
  refine o_astoreN W1 (L' := #[.val (.long 1), .second, vi 9, vr gO86, un, un, un]) 16 (hb hy d20_15) rfl rfl rfl ?_
  refine o_getS W1 (w100 hw) Via.refl (z3.ext W1.ox) 19 (hb hy d20_16) rfl ?_
  intro T2 W2
  refine o_astore W2 (L' := #[.val (.long 1), .second, vi 9, vr gO86, vr gO87, un, un]) 21 (hb hy d20_19) rfl rfl rfl <| o_iloadN W2 22 (hb hy d20_21) rfl rfl <| o_aloadN W2 23 (hb hy d20_22) rfl rfl rfl <| o_len W2 (VgO86.ext W2.ox) 24 (hb hy d20_23) rfl <| o_icmpN W2 27 (hb hy d20_24) (XT.ii_ge_f (by decide)) rfl <| o_iloadN W2 28 (hb hy d20_27) rfl rfl ?_
  refine o_aload W2 30 (hb hy d20_28) rfl rfl rfl <| o_len W2 (VgO87.ext W2.ox) 31 (hb hy d20_30) rfl <| o_icmpN W2 34 (hb hy d20_31) (XT.ii_ge_f (by decide)) rfl <| o_aloadN W2 35 (hb hy d20_34) rfl rfl rfl <| o_iloadN W2 36 (hb hy d20_35) rfl rfl <| o_laload W2 (VgO86.ext W2.ox) (x := (1000000000 : Int64)) (i := 9) (by decide) (by decide) (by decide) rfl 37 (hb hy d20_36) rfl ?_
  refine o_lstore W2 (L' := #[.val (.long 1), .second, vi 9, vr gO86, vr gO87, .val (.long 1000000000), .second]) 39 (hb hy d20_37) rfl rfl <| o_lloadN W2 40 (hb hy d20_39) rfl rfl <| o_lconst W2 (v := 1) 41 (hb hy d20_40) (by decide) rfl <| o_lcmp W2 (v := 0) 42 (hb hy d20_41) (by decide) rfl <| o_ifN W2 45 (hb hy d20_42) (XT.i0_ne_f (by decide)) rfl <| o_lload W2 47 (hb hy d20_45) rfl rfl ?_
  exact o_retJ W2 hlk hret (hb hy d20_47) (by decide) (by decide) rfl
theorem rm18 (l : Launch) {Z a0} (hw : HW Z a0) (y1 : Int64) (h0 : Heap) (O0 : Old Z Z.heap.size h0) (hc1 : ¬ ((lcmpW (((y1 + (0 : Int64)) ^^^ y1) &&& ((y1 + (0 : Int64)) ^^^ (0 : Int64))) (0 : Int64)) < (0 : Int32))) :
    CtrN l Z mn16 jdk_17_method_132_code 6 (some .long) [] (⟨0, 0, 0, 0⟩ : Room) #[(.long y1), (.long 0)] h0 [] (fun v h => v = some (.long (y1 + (0 : Int64)))) := by
  refine CtrN.intro (L0 := #[.val (.long y1), .second, .val (.long 0), .second, un, un]) (plainFor_of_name pn4) O0 (fun _ => rfl) ?_
  intro p e s m below meth c T0 hy hml hret hlk hnm W0
  refine o_lloadN W0 1 (hb hy d22_0) rfl rfl <| o_lloadN W0 2 (hb hy d22_1) rfl rfl <| o_ladd W0 (v := (y1 + (0 : Int64))) 3 (hb hy d22_2) rfl rfl <| o_lstore W0 (L' := #[.val (.long y1), .second, .val (.long 0), .second, .val (.long (y1 + (0 : Int64))), .second]) 5 (hb hy d22_3) rfl rfl <| o_lload W0 7 (hb hy d22_5) rfl rfl <| o_lloadN W0 8 (hb hy d22_7) rfl rfl ?_
  refine o_lxor W0 (v := ((y1 + (0 : Int64)) ^^^ y1)) 9 (hb hy d22_8) rfl rfl ?_
  refine o_lload W0 11 (hb hy d22_9) rfl rfl <| o_lloadN W0 12 (hb hy d22_11) rfl rfl ?_
  refine o_lxor W0 (v := ((y1 + (0 : Int64)) ^^^ (0 : Int64))) 13 (hb hy d22_12) rfl rfl ?_
  refine o_land W0 (v := (((y1 + (0 : Int64)) ^^^ y1) &&& ((y1 + (0 : Int64)) ^^^ (0 : Int64)))) 14 (hb hy d22_13) rfl rfl <| o_lconst W0 (v := 0) 15 (hb hy d22_14) (by decide) rfl <| o_lcmp W0 (v := (lcmpW (((y1 + (0 : Int64)) ^^^ y1) &&& ((y1 + (0 : Int64)) ^^^ (0 : Int64))) (0 : Int64))) 16 (hb hy d22_15) rfl rfl <| o_ifN W0 19 (hb hy d22_16) (XT.i0_lt_f hc1) rfl <| o_lload W0 21 (hb hy d22_19) rfl rfl ?_
  exact o_retJ W0 hlk hret (hb hy d22_21) (by decide) (by decide) rfl
theorem rm19 (l : Launch) {Z a0} (hw : HW Z a0) (a1 : Addr) (h0 : Heap) (O0 : Old Z Z.heap.size h0) :
    CtrN l Z mn17 jdk_18_method_1_code 1 none [] (⟨1, 0, 0, 12⟩ : Room) #[(.ref a1)] h0 [] (fun v h => v = none) := by
  refine CtrN.intro (L0 := #[vr a1]) (plainFor_of_name pn5) O0 (fun _ => rfl) ?_
  intro p e s m below meth c T0 hy hml hret hlk hnm W0
  refine o_aloadN W0 1 (hb hy d24_0) rfl rfl rfl ?_
  refine o_initO W0 (w120 hw) (w7 hw) (w8 hw) (by rw [hml]; rfl) 4 (hb hy d24_1) rfl (by decide) 0 (by exact Nat.le_of_eq rfl) (by decide) ?_
  intro T1 W1
  exact o_ret0 W1 hlk hret (hb hy d24_4) (by decide) (by decide) rfl
theorem rm20 (l : Launch) {Z a0} (hw : HW Z a0) (a1 : Addr) (y1 : Int64) (h0 : Heap) (O0 : Old Z Z.heap.size h0) (z0 : Exa Z h0 a1 s0) (z1 : Fld Z h0 a1 s0 "scale" "I" iZ) (z2 : Z.heap.size ≤ a1) (z3 : Fld Z h0 a1 s0 s10 "I" iZ) (z4 : Fld Z h0 a1 s0 s4 "J" (.long 0)) (z5 : Fld Z h0 a1 s0 "intVal" s5 .null) :
    CtrN l Z mn18 jdk_17_method_1_code 6 none [] (⟨2, 0, 0, 24⟩ : Room) #[(.ref a1), .null, (.long y1), (.int 9), iZ] h0 [a1] (fun v h => Fld Z h a1 s0 "scale" "I" (.int 9) ∧ Fld Z h a1 s0 s10 "I" iZ ∧ Fld Z h a1 s0 s4 "J" (.long y1) ∧ Fld Z h a1 s0 "intVal" s5 .null ∧ v = none) := by
  refine CtrN.intro (L0 := #[vr a1, .val .null, .val (.long y1), .second, vi 9, vi 0]) (plainFor_of_name pn4) O0 (fun _ => rfl) ?_
  intro p e s m below meth c T0 hy hml hret hlk hnm W0
  refine o_aloadN W0 1 (hb hy d23_0) rfl rfl rfl ?_
  refine o_specialC W0 rfl (w114 hw) (w115 hw) (w119 hw) (by decide) (w118 hw) (rm19 l hw a1 h0 W0.old ) 0 0 0 (by decide) (by rw [hml]; rfl) (lenOf pd0 rfl) [] rfl rfl 4 (hb hy d23_1) rfl rfl rfl all0 tri ?_
  intro v1 T1 h1 lo1 W1 K1 q1
  obtain rfl := q1.2.2
  show Gl _ _ _ _ _ _ _ _ []
  refine o_aloadN W1 5 (hb hy d23_4) rfl rfl rfl <| o_iload W1 7 (hb hy d23_5) rfl rfl ?_
  have c2 := (z0.keep K1)
  have c3 := (z1.keep K1 nin0)
  refine o_putF W1 (w88 hw) Via.refl c3 c2 (Or.inr ⟨(w89 hw), rfl, hnm⟩) (w109 hw) (ty := .int) (v' := (.int 9)) (by decide) rfl rfl z2 m0 tri 10 (hb hy d23_7) rfl ?_
  intro T4 h4 lo4 W4 R4
  have F4 := c3.same R4
  refine o_aloadN W4 11 (hb hy d23_10) rfl rfl rfl <| o_iload W4 13 (hb hy d23_11) rfl rfl ?_
  have c5 := (c2.wr R4)
  have c6 := ((z3.keep K1 nin0).other R4 (Or.inr (slot_ne (Or.inl (w122 hw)) (Or.inr (w89 hw)) (by decide) (t := .int) (t' := .int) (by decide) (by decide))))
  refine o_putF W4 (w121 hw) Via.refl c6 c5 (Or.inl (w122 hw)) (w109 hw) (ty := .int) (v' := iZ) (by decide) rfl rfl z2 m0 tri 16 (hb hy d23_13) rfl ?_
  intro T7 h7 lo7 W7 R7
  have F7 := c6.same R7
  refine o_aloadN W7 17 (hb hy d23_16) rfl rfl rfl <| o_lloadN W7 18 (hb hy d23_17) rfl rfl ?_
  have c8 := (c5.wr R7)
  have c9 := (((z4.keep K1 nin0).other R4 (Or.inr (slot_ne (Or.inr (w86 hw)) (Or.inr (w89 hw)) (by decide) (t := .long) (t' := .int) (by decide) (by decide)))).other R7 (Or.inr (slot_ne (Or.inr (w86 hw)) (Or.inl (w122 hw)) (by decide) (t := .long) (t' := .int) (by decide) (by decide))))
  refine o_putF W7 (w85 hw) Via.refl c9 c8 (Or.inr ⟨(w86 hw), rfl, hnm⟩) (w109 hw) (ty := .long) (v' := (.long y1)) (by decide) rfl rfl z2 m0 tri 21 (hb hy d23_18) rfl ?_
  intro T10 h10 lo10 W10 R10
  have F10 := c9.same R10
  refine o_aloadN W10 22 (hb hy d23_21) rfl rfl rfl <| o_aloadN W10 23 (hb hy d23_22) rfl rfl rfl ?_
  have c11 := (c8.wr R10)
  have c12 := ((((z5.keep K1 nin0).other R4 (Or.inr (slot_ne (Or.inr (w124 hw)) (Or.inr (w89 hw)) (by decide) (t := (.object s1)) (t' := .int) (by decide) (by decide)))).other R7 (Or.inr (slot_ne (Or.inr (w124 hw)) (Or.inl (w122 hw)) (by decide) (t := (.object s1)) (t' := .int) (by decide) (by decide)))).other R10 (Or.inr (slot_ne (Or.inr (w124 hw)) (Or.inr (w86 hw)) (by decide) (t := (.object s1)) (t' := .long) (by decide) (by decide))))
  refine o_putF W10 (w123 hw) Via.refl c12 c11 (Or.inr ⟨(w124 hw), rfl, hnm⟩) (w109 hw) (ty := (.object s1)) (v' := .null) (by decide) rfl rfl z2 m0 tri 26 (hb hy d23_23) rfl ?_
  intro T13 h13 lo13 W13 R13
  have F13 := c12.same R13
  have c14 := (F10.other R13 (Or.inr (slot_ne (Or.inr (w86 hw)) (Or.inr (w124 hw)) (by decide) (t := .long) (t' := (.object s1)) (by decide) (by decide))))
  have c15 := (((F4.other R7 (Or.inr (slot_ne (Or.inr (w89 hw)) (Or.inl (w122 hw)) (by decide) (t := .int) (t' := .int) (by decide) (by decide)))).other R10 (Or.inr (slot_ne (Or.inr (w89 hw)) (Or.inr (w86 hw)) (by decide) (t := .int) (t' := .long) (by decide) (by decide)))).other R13 (Or.inr (slot_ne (Or.inr (w89 hw)) (Or.inr (w124 hw)) (by decide) (t := .int) (t' := (.object s1)) (by decide) (by decide))))
  have c16 := ((F7.other R10 (Or.inr (slot_ne (Or.inl (w122 hw)) (Or.inr (w86 hw)) (by decide) (t := .int) (t' := .long) (by decide) (by decide)))).other R13 (Or.inr (slot_ne (Or.inl (w122 hw)) (Or.inr (w124 hw)) (by decide) (t := .int) (t' := (.object s1)) (by decide) (by decide))))
  have c17 := (c11.wr R13)
  exact o_ret0 W13 hlk hret (hb hy d23_26) (by decide) (by decide) ⟨c15, c16, c14, F13, rfl⟩
theorem rm21 (l : Launch) {Z a0} (hw : HW Z a0) (y1 : Int64) (h0 : Heap) (O0 : Old Z Z.heap.size h0) (hc1 : ¬ ((lcmpW y1 (0 : Int64)) = (0 : Int32))) (hc3 : ¬ ((lcmpW y1 (-9223372036854775808 : Int64)) = (0 : Int32))) :
    CtrN l Z mn13 jdk_17_method_20_code 3 (some (.object s0)) [] (⟨3, 1, 5, 42⟩ : Room) #[(.long y1), (.int 9)] h0 [] (fun v h => ∃ r1 : Addr, h0.size ≤ r1 ∧ Exa Z h r1 s0 ∧ Fld Z h r1 s0 s4 "J" (.long y1) ∧ Fld Z h r1 s0 "scale" "I" (.int 9) ∧ Fld Z h r1 s0 s10 "I" iZ ∧ Fld Z h r1 s0 "intVal" s5 .null ∧ v = some (.ref r1)) := by
  refine CtrN.intro (L0 := #[.val (.long y1), .second, vi 9]) (plainFor_of_name pn4) O0 (fun _ => rfl) ?_
  intro p e s m below meth c T0 hy hml hret hlk hnm W0
  refine o_iloadN W0 1 (hb hy d15_0) rfl rfl <| o_ifY W0 9 (hb hy d15_1) (XT.i0_ne_t (by decide)) (by decide) rfl <| o_lloadN W0 10 (hb hy d15_9) rfl rfl <| o_lconst W0 (v := 0) 11 (hb hy d15_10) (by decide) rfl <| o_lcmp W0 (v := (lcmpW y1 (0 : Int64))) 12 (hb hy d15_11) rfl rfl <| o_ifY W0 20 (hb hy d15_12) (XT.i0_ne_t hc1) (by decide) rfl ?_
  refine o_new W0 (w108 hw) (w109 hw) (w70 hw) tri 23 (hb hy d15_20) rfl (cells' := 1) (slots' := 5) rfl rfl (by decide) (by decide) ?_
  intro b2 T2 h2 W2 E2 ge2 gz2 gb2 A2 D2
  have Fb2_intCompact : Fld Z h2 b2 s0 s4 "J" (.long 0) := D2 (Or.inr (w86 hw)) (ty := .long) (by decide)
  have Fb2_scale : Fld Z h2 b2 s0 "scale" "I" iZ := D2 (Or.inr (w89 hw)) (ty := .int) (by decide)
  have Fb2_precision : Fld Z h2 b2 s0 s10 "I" iZ := D2 (Or.inl (w122 hw)) (ty := .int) (by decide)
  have Fb2_intVal : Fld Z h2 b2 s0 "intVal" s5 .null := D2 (Or.inr (w124 hw)) (ty := (.object s1)) (by decide)
  refine o_dup W2 24 (hb hy d15_23) rfl rfl <| o_lloadN W2 25 (hb hy d15_24) rfl rfl <| o_ldcJ W2 (w87 hw) 28 (hb hy d15_25) rfl <| o_lcmp W2 (v := (lcmpW y1 (-9223372036854775808 : Int64))) 29 (hb hy d15_28) rfl rfl <| o_ifY W2 38 (hb hy d15_29) (XT.i0_ne_t hc3) (by decide) rfl ?_
  refine o_aconstNull W2 39 (hb hy d15_38) rfl ?_
  refine o_lloadN W2 40 (hb hy d15_39) rfl rfl <| o_iloadN W2 41 (hb hy d15_40) rfl rfl <| o_iconst W2 (v := 0) 42 (hb hy d15_41) rfl rfl ?_
  refine o_specialC W2 rfl (w110 hw) (w111 hw) (w113 hw) (by decide) (w70 hw) (rm20 l hw b2 y1 h2 W2.old A2 Fb2_scale gz2 Fb2_precision Fb2_intCompact Fb2_intVal) 1 1 5 (by decide) (by rw [hml]; rfl) (lenOf pd16 rfl) [(.ref b2)] rfl rfl 45 (hb hy d15_42) rfl rfl rfl (allS ⟨gz2, (Or.inr gb2)⟩ all0) tri ?_
  intro v4 T4 h4 lo4 W4 K4 q4
  obtain ⟨P4_0, P4_1, P4_2, P4_3, rfl⟩ := q4.2.2
  show Gl _ _ _ _ _ _ _ _ [(.ref b2)]
  have c5 := (A2.keep K4)
  exact o_retA W4 hlk (v := (.ref b2)) hret rfl rfl (hb hy d15_45) (by decide) (by decide) ⟨b2, gb2, c5, P4_2, P4_0, P4_1, P4_3, rfl⟩
theorem rm22 (l : Launch) {Z a0} (hw : HW Z a0) (y1 : Int64) (h0 : Heap) (O0 : Old Z Z.heap.size h0) (hc1 : ¬ ((lcmpW (((y1 + (0 : Int64)) ^^^ y1) &&& ((y1 + (0 : Int64)) ^^^ (0 : Int64))) (0 : Int64)) < (0 : Int32))) (hc3 : ¬ ((lcmpW (y1 + (0 : Int64)) (-9223372036854775808 : Int64)) = (0 : Int32))) (hc4 : ¬ ((lcmpW (y1 + (0 : Int64)) (0 : Int64)) = (0 : Int32))) :
    CtrN l Z mn19 jdk_17_method_133_code 7 (some (.object s0)) [] (⟨4, 1, 5, 56⟩ : Room) #[(.long y1), (.long 0), (.int 9)] h0 [] (fun v h => ∃ r1 : Addr, h0.size ≤ r1 ∧ Exa Z h r1 s0 ∧ Fld Z h r1 s0 s4 "J" (.long (y1 + (0 : Int64))) ∧ Fld Z h r1 s0 "scale" "I" (.int 9) ∧ Fld Z h r1 s0 s10 "I" iZ ∧ Fld Z h r1 s0 "intVal" s5 .null ∧ v = some (.ref r1)) := by
  refine CtrN.intro (L0 := #[.val (.long y1), .second, .val (.long 0), .second, vi 9, un, un]) (plainFor_of_name pn4) O0 (fun _ => rfl) ?_
  intro p e s m below meth c T0 hy hml hret hlk hnm W0
  refine o_lloadN W0 1 (hb hy d21_0) rfl rfl <| o_lloadN W0 2 (hb hy d21_1) rfl rfl ?_
  refine o_staticC W0 (w104 hw) (w105 hw) (w70 hw) (w106 hw) (by decide) (rm18 l hw y1 h0 W0.old hc1) 0 0 0 (by decide) (by rw [hml]; rfl) (lenOf pd15 rfl) [] rfl rfl 5 (hb hy d21_2) rfl rfl rfl all0 tri ?_
  intro v2 T2 h2 lo2 W2 K2 q2
  obtain rfl := q2.2.2
  show Gl _ _ _ _ _ _ _ _ [(.long (y1 + (0 : Int64)))]
  refine o_lstore W2 (L' := #[.val (.long y1), .second, .val (.long 0), .second, vi 9, .val (.long (y1 + (0 : Int64))), .second]) 7 (hb hy d21_5) rfl rfl <| o_lload W2 9 (hb hy d21_7) rfl rfl <| o_ldcJ W2 (w87 hw) 12 (hb hy d21_9) rfl <| o_lcmp W2 (v := (lcmpW (y1 + (0 : Int64)) (-9223372036854775808 : Int64))) 13 (hb hy d21_12) rfl rfl <| o_ifN W2 16 (hb hy d21_13) (XT.i0_eq_f hc3) rfl <| o_lload W2 18 (hb hy d21_16) rfl rfl ?_
  refine o_iload W2 20 (hb hy d21_18) rfl rfl ?_
  refine o_staticC W2 (w107 hw) (w74 hw) (w70 hw) (w75 hw) (by decide) (rm21 l hw (y1 + (0 : Int64)) h2 W2.old hc4 hc3) 0 1 5 (by decide) (by rw [hml]; rfl) (lenOf pd13 rfl) [] rfl rfl 23 (hb hy d21_20) rfl rfl rfl all0 tri ?_
  intro v5 T5 h5 lo5 W5 K5 q5
  obtain ⟨r1_5, P5_0, P5_1, P5_2, P5_3, P5_4, P5_5, rfl⟩ := q5.2.2
  show Gl _ _ _ _ _ _ _ _ [(.ref r1_5)]
  exact o_retA W5 hlk (v := (.ref r1_5)) hret rfl rfl (hb hy d21_23) (by decide) (by decide) ⟨r1_5, (Nat.le_trans W2.keep.1 P5_0), P5_1, P5_2, P5_3, P5_4, P5_5, rfl⟩
theorem rm23 (l : Launch) {Z a0} (hw : HW Z a0) (gO86 gO87 : Addr) (z0 z1 : ClassId) (h0 : Heap) (O0 : Old Z Z.heap.size h0) (z2 : Sta Z Z.heap s0 s13 "[J" (.ref gO86)) (z3 : Sta Z Z.heap s0 s14 "[J" (.ref gO87)) (VgO86 : Arv Z Z.heap gO86 z0 .long (19 : Int32) [(.long 1), (.long 10), (.long 100), (.long 1000), (.long 10000), (.long 100000), (.long 1000000), (.long 10000000), (.long 100000000), (.long 1000000000), (.long 10000000000), (.long 100000000000), (.long 1000000000000), (.long 10000000000000), (.long 100000000000000), (.long 1000000000000000), (.long 10000000000000000), (.long 100000000000000000), (.long 1000000000000000000)] (.long 0)) (VgO87 : Arv Z Z.heap gO87 z1 .long (19 : Int32) [(.long 9223372036854775807), (.long 922337203685477580), (.long 92233720368547758), (.long 9223372036854775), (.long 922337203685477), (.long 92233720368547), (.long 9223372036854), (.long 922337203685), (.long 92233720368), (.long 9223372036), (.long 922337203), (.long 92233720), (.long 9223372), (.long 922337), (.long 92233), (.long 9223), (.long 922), (.long 92), (.long 9)] (.long 0)) :
    CtrN l Z mn20 jdk_17_method_134_code 12 (some (.object s0)) [] (⟨5, 1, 5, 74⟩ : Room) #[(.long 1), iZ, (.long 0), (.int 9)] h0 [] (fun v h => ∃ r1 : Addr, h0.size ≤ r1 ∧ Exa Z h r1 s0 ∧ Fld Z h r1 s0 s4 "J" (.long 1000000000) ∧ Fld Z h r1 s0 "scale" "I" (.int 9) ∧ Fld Z h r1 s0 s10 "I" iZ ∧ Fld Z h r1 s0 "intVal" s5 .null ∧ v = some (.ref r1)) := by
  refine CtrN.intro (L0 := #[.val (.long 1), .second, vi 0, .val (.long 0), .second, vi 9, un, un, un, un, un, un]) (plainFor_of_name pn4) O0 (fun _ => rfl) ?_
  intro p e s m below meth c T0 hy hml hret hlk hnm W0
  refine o_iloadN W0 1 (hb hy d18_0) rfl rfl <| o_i2l W0 (v := 0) 2 (hb hy d18_1) (by decide) rfl <| o_iload W0 4 (hb hy d18_2) rfl rfl <| o_i2l W0 (v := 9) 5 (hb hy d18_4) (by decide) rfl <| o_lsub W0 (v := (-9 : Int64)) 6 (hb hy d18_5) (by decide) rfl <| o_lstore W0 (L' := #[.val (.long 1), .second, vi 0, .val (.long 0), .second, vi 9, .val (.long (-9 : Int64)), .second, un, un, un, un]) 8 (hb hy d18_6) rfl rfl ?_
  refine o_lload W0 10 (hb hy d18_8) rfl rfl <| o_lconst W0 (v := 0) 11 (hb hy d18_10) (by decide) rfl <| o_lcmp W0 (v := (-1 : Int32)) 12 (hb hy d18_11) (by decide) rfl <| o_ifY W0 22 (hb hy d18_12) (XT.i0_ne_t (by decide)) (by decide) rfl <| o_lload W0 24 (hb hy d18_22) rfl rfl <| o_lconst W0 (v := 0) 25 (hb hy d18_24) (by decide) rfl ?_
  refine o_lcmp W0 (v := (-1 : Int32)) 26 (hb hy d18_25) (by decide) rfl <| o_ifN W0 29 (hb hy d18_26) (XT.i0_ge_f (by decide)) rfl <| o_lloadN W0 30 (hb hy d18_29) rfl rfl <| o_lload W0 32 (hb hy d18_30) rfl rfl ?_
  refine o_lneg W0 (v := 9) 33 (hb hy d18_32) (by decide) rfl ?_
  refine o_staticC W0 (w93 hw) (w94 hw) (w70 hw) (w95 hw) (by decide) (rm16 l hw  h0 W0.old ) 0 0 0 (by decide) (by rw [hml]; rfl) (lenOf pd3 rfl) [] rfl rfl 36 (hb hy d18_33) rfl rfl rfl all0 tri ?_
  intro v1 T1 h1 lo1 W1 K1 q1
  obtain rfl := q1.2.2
  show Gl _ _ _ _ _ _ _ _ [(.int 9)]
  refine o_istore W1 (L' := #[.val (.long 1), .second, vi 0, .val (.long 0), .second, vi 9, .val (.long (-9 : Int64)), .second, vi 9, un, un, un]) 38 (hb hy d18_36) rfl rfl <| o_lloadN W1 39 (hb hy d18_38) rfl rfl <| o_iload W1 41 (hb hy d18_39) rfl rfl ?_
  refine o_staticC W1 (w96 hw) (w97 hw) (w70 hw) (w98 hw) (by decide) (rm17 l hw gO86 gO87 z0 z1 h1 W1.old z2 z3 VgO86 VgO87) 0 0 0 (by decide) (by rw [hml]; rfl) (lenOf pd14 rfl) [] rfl rfl 44 (hb hy d18_41) rfl rfl rfl all0 tri ?_
  intro v2 T2 h2 lo2 W2 K2 q2
  obtain rfl := q2.2.2
  show Gl _ _ _ _ _ _ _ _ [(.long 1000000000)]
  refine o_lstore W2 (L' := #[.val (.long 1), .second, vi 0, .val (.long 0), .second, vi 9, .val (.long (-9 : Int64)), .second, vi 9, .val (.long 1000000000), .second, un]) 46 (hb hy d18_44) rfl rfl <| o_lload W2 48 (hb hy d18_46) rfl rfl <| o_ldcJ W2 (w87 hw) 51 (hb hy d18_48) rfl <| o_lcmp W2 (v := 1) 52 (hb hy d18_51) (by decide) rfl <| o_ifN W2 55 (hb hy d18_52) (XT.i0_eq_f (by decide)) rfl <| o_lload W2 57 (hb hy d18_55) rfl rfl ?_
  refine o_lloadN W2 58 (hb hy d18_57) rfl rfl <| o_iload W2 60 (hb hy d18_58) rfl rfl ?_
  refine o_staticC W2 (w101 hw) (w102 hw) (w70 hw) (w103 hw) (by decide) (rm22 l hw (1000000000 : Int64) h2 W2.old (by decide) (by decide) (by decide)) 0 1 5 (by decide) (by rw [hml]; rfl) (lenOf pd17 rfl) [] rfl rfl 63 (hb hy d18_60) rfl rfl rfl all0 tri ?_
  intro v3 T3 h3 lo3 W3 K3 q3
  obtain ⟨r1_3, P3_0, P3_1, P3_2, P3_3, P3_4, P3_5, rfl⟩ := q3.2.2
  rw [show ((1000000000 : Int64) + (0 : Int64)) = (1000000000 : Int64) from by decide] at P3_2
  show Gl _ _ _ _ _ _ _ _ [(.ref r1_3)]
  exact o_retA W3 hlk (v := (.ref r1_3)) hret rfl rfl (hb hy d18_63) (by decide) (by decide) ⟨r1_3, (Nat.le_trans W2.keep.1 P3_0), P3_1, P3_2, P3_3, P3_4, P3_5, rfl⟩
theorem rm24 (l : Launch) {Z a0} (hw : HW Z a0) (gO7 gO65 gO86 gO87 : Addr) (z0 z1 : ClassId) (h0 : Heap) (O0 : Old Z Z.heap.size h0) (z2 : Fld Z Z.heap gO7 s0 s4 "J" (.long 1)) (z3 : Fld Z Z.heap gO65 s0 s4 "J" (.long 0)) (z4 : Fld Z Z.heap gO7 s0 "scale" "I" iZ) (z5 : Fld Z Z.heap gO65 s0 "scale" "I" (.int 9)) (z6 : Sta Z Z.heap s0 s13 "[J" (.ref gO86)) (z7 : Sta Z Z.heap s0 s14 "[J" (.ref gO87)) (VgO86 : Arv Z Z.heap gO86 z0 .long (19 : Int32) [(.long 1), (.long 10), (.long 100), (.long 1000), (.long 10000), (.long 100000), (.long 1000000), (.long 10000000), (.long 100000000), (.long 1000000000), (.long 10000000000), (.long 100000000000), (.long 1000000000000), (.long 10000000000000), (.long 100000000000000), (.long 1000000000000000), (.long 10000000000000000), (.long 100000000000000000), (.long 1000000000000000000)] (.long 0)) (VgO87 : Arv Z Z.heap gO87 z1 .long (19 : Int32) [(.long 9223372036854775807), (.long 922337203685477580), (.long 92233720368547758), (.long 9223372036854775), (.long 922337203685477), (.long 92233720368547), (.long 9223372036854), (.long 922337203685), (.long 92233720368), (.long 9223372036), (.long 922337203), (.long 92233720), (.long 9223372), (.long 922337), (.long 92233), (.long 9223), (.long 922), (.long 92), (.long 9)] (.long 0)) :
    CtrN l Z mn21 jdk_17_method_26_code 2 (some (.object s0)) [] (⟨6, 1, 5, 97⟩ : Room) #[(.ref gO7), (.ref gO65)] h0 [] (fun v h => ∃ r1 : Addr, h0.size ≤ r1 ∧ Exa Z h r1 s0 ∧ Fld Z h r1 s0 s4 "J" (.long 1000000000) ∧ Fld Z h r1 s0 "scale" "I" (.int 9) ∧ Fld Z h r1 s0 s10 "I" iZ ∧ Fld Z h r1 s0 "intVal" s5 .null ∧ v = some (.ref r1)) := by
  refine CtrN.intro (L0 := #[vr gO7, vr gO65]) (plainFor_of_name pn4) O0 (fun _ => rfl) ?_
  intro p e s m below meth c T0 hy hml hret hlk hnm W0
  refine o_aloadN W0 1 (hb hy d17_0) rfl rfl rfl ?_
  refine o_getF W0 (w85 hw) Via.refl (z2.ext W0.ox) 4 (hb hy d17_1) rfl ?_
  intro T1 W1
  refine o_ldcJ W1 (w87 hw) 7 (hb hy d17_4) rfl <| o_lcmp W1 (v := 1) 8 (hb hy d17_7) (by decide) rfl <| o_ifN W1 11 (hb hy d17_8) (XT.i0_eq_f (by decide)) rfl <| o_aloadN W1 12 (hb hy d17_11) rfl rfl rfl ?_
  refine o_getF W1 (w85 hw) Via.refl (z3.ext W1.ox) 15 (hb hy d17_12) rfl ?_
  intro T2 W2
  refine o_ldcJ W2 (w87 hw) 18 (hb hy d17_15) rfl <| o_lcmp W2 (v := 1) 19 (hb hy d17_18) (by decide) rfl <| o_ifN W2 22 (hb hy d17_19) (XT.i0_eq_f (by decide)) rfl <| o_aloadN W2 23 (hb hy d17_22) rfl rfl rfl ?_
  refine o_getF W2 (w85 hw) Via.refl (z2.ext W2.ox) 26 (hb hy d17_23) rfl ?_
  intro T3 W3
  refine o_aloadN W3 27 (hb hy d17_26) rfl rfl rfl ?_
  refine o_getF W3 (w88 hw) Via.refl (z4.ext W3.ox) 30 (hb hy d17_27) rfl ?_
  intro T4 W4
  refine o_aloadN W4 31 (hb hy d17_30) rfl rfl rfl ?_
  refine o_getF W4 (w85 hw) Via.refl (z3.ext W4.ox) 34 (hb hy d17_31) rfl ?_
  intro T5 W5
  refine o_aloadN W5 35 (hb hy d17_34) rfl rfl rfl ?_
  refine o_getF W5 (w88 hw) Via.refl (z5.ext W5.ox) 38 (hb hy d17_35) rfl ?_
  intro T6 W6
  refine o_staticC W6 (w90 hw) (w91 hw) (w70 hw) (w92 hw) (by decide) (rm23 l hw gO86 gO87 z0 z1 h0 W6.old z6 z7 VgO86 VgO87) 0 1 5 (by decide) (by rw [hml]; rfl) (lenOf pd18 rfl) [] rfl rfl 41 (hb hy d17_38) rfl rfl rfl all0 tri ?_
  intro v7 T7 h7 lo7 W7 K7 q7
  obtain ⟨r1_7, P7_0, P7_1, P7_2, P7_3, P7_4, P7_5, rfl⟩ := q7.2.2
  show Gl _ _ _ _ _ _ _ _ [(.ref r1_7)]
  exact o_retA W7 hlk (v := (.ref r1_7)) hret rfl rfl (hb hy d17_41) (by decide) (by decide) ⟨r1_7, (Nat.le_trans W6.keep.1 P7_0), P7_1, P7_2, P7_3, P7_4, P7_5, rfl⟩
theorem rm25 (l : Launch) {Z a0} (hw : HW Z a0) (gO1 gO3 gO4 gO7 gO10 gO13 gO16 gO19 gO22 gO25 gO28 gO31 gO34 gO37 gO38 gO41 gO44 gO47 gO50 gO53 gO56 gO59 gO62 gO65 gO68 gO71 gO74 gO77 gO80 gO83 gO86 gO87 : Addr) (z0 z1 z2 z3 : ClassId) (h0 : Heap) (O0 : Old Z Z.heap.size h0) (z4 : Fld Z Z.heap gO1 s2 "seconds" "J" (.long 1)) (z5 : Sta Z Z.heap s0 s12 s7 (.ref gO3)) (VgO3 : Arv Z Z.heap gO3 z0 (.object s0) (11 : Int32) [(.ref gO4), (.ref gO7), (.ref gO10), (.ref gO13), (.ref gO16), (.ref gO19), (.ref gO22), (.ref gO25), (.ref gO28), (.ref gO31), (.ref gO34)] .null) (z6 : Fld Z Z.heap gO1 s2 "nanos" "I" iZ) (z7 : Sta Z Z.heap s0 s16 s7 (.ref gO37)) (VgO37 : Arv Z Z.heap gO37 z1 (.object s0) (16 : Int32) [(.ref gO38), (.ref gO41), (.ref gO44), (.ref gO47), (.ref gO50), (.ref gO53), (.ref gO56), (.ref gO59), (.ref gO62), (.ref gO65), (.ref gO68), (.ref gO71), (.ref gO74), (.ref gO77), (.ref gO80), (.ref gO83)] .null) (z8 : Fld Z Z.heap gO7 s0 s4 "J" (.long 1)) (z9 : Fld Z Z.heap gO65 s0 s4 "J" (.long 0)) (z10 : Fld Z Z.heap gO7 s0 "scale" "I" iZ) (z11 : Fld Z Z.heap gO65 s0 "scale" "I" (.int 9)) (z12 : Sta Z Z.heap s0 s13 "[J" (.ref gO86)) (z13 : Sta Z Z.heap s0 s14 "[J" (.ref gO87)) (VgO86 : Arv Z Z.heap gO86 z2 .long (19 : Int32) [(.long 1), (.long 10), (.long 100), (.long 1000), (.long 10000), (.long 100000), (.long 1000000), (.long 10000000), (.long 100000000), (.long 1000000000), (.long 10000000000), (.long 100000000000), (.long 1000000000000), (.long 10000000000000), (.long 100000000000000), (.long 1000000000000000), (.long 10000000000000000), (.long 100000000000000000), (.long 1000000000000000000)] (.long 0)) (VgO87 : Arv Z Z.heap gO87 z3 .long (19 : Int32) [(.long 9223372036854775807), (.long 922337203685477580), (.long 92233720368547758), (.long 9223372036854775), (.long 922337203685477), (.long 92233720368547), (.long 9223372036854), (.long 922337203685), (.long 92233720368), (.long 9223372036), (.long 922337203), (.long 92233720), (.long 9223372), (.long 922337), (.long 92233), (.long 9223), (.long 922), (.long 92), (.long 9)] (.long 0)) (XgO7 : Exa Z Z.heap gO7 s0) :
    CtrN l Z mn22 jdk_2316_method_47_code 1 (some (.object s0)) [] (⟨7, 1, 5, 110⟩ : Room) #[(.ref gO1)] h0 [] (fun v h => ∃ r1 : Addr, h0.size ≤ r1 ∧ Exa Z h r1 s0 ∧ Fld Z h r1 s0 s4 "J" (.long 1000000000) ∧ Fld Z h r1 s0 "scale" "I" (.int 9) ∧ Fld Z h r1 s0 s10 "I" iZ ∧ Fld Z h r1 s0 "intVal" s5 .null ∧ v = some (.ref r1)) := by
  refine CtrN.intro (L0 := #[vr gO1]) (plainFor_of_name pn1) O0 (fun _ => rfl) ?_
  intro p e s m below meth c T0 hy hml hret hlk hnm W0
  refine o_aloadN W0 1 (hb hy d13_0) rfl rfl rfl ?_
  refine o_getF W0 (w38 hw) Via.refl (z4.ext W0.ox) 4 (hb hy d13_1) rfl ?_
  intro T1 W1
  refine o_staticC W1 (w68 hw) (w69 hw) (w70 hw) (w71 hw) (by decide) (rm13 l hw gO3 gO4 gO7 gO10 gO13 gO16 gO19 gO22 gO25 gO28 gO31 gO34 z0 h0 W1.old z5 VgO3) 0 0 0 (by decide) (by rw [hml]; rfl) (lenOf pd11 rfl) [] rfl rfl 7 (hb hy d13_4) rfl rfl rfl all0 tri ?_
  intro v2 T2 h2 lo2 W2 K2 q2
  obtain rfl := q2.2.2
  show Gl _ _ _ _ _ _ _ _ [(.ref gO7)]
  refine o_aloadN W2 8 (hb hy d13_7) rfl rfl rfl ?_
  refine o_getF W2 (w61 hw) Via.refl (z6.ext W2.ox) 11 (hb hy d13_8) rfl ?_
  intro T3 W3
  refine o_i2l W3 (v := 0) 12 (hb hy d13_11) (by decide) rfl <| o_bipush W3 (v := 9) 14 (hb hy d13_12) (by decide) rfl ?_
  refine o_staticC W3 (w73 hw) (w74 hw) (w70 hw) (w75 hw) (by decide) (rm15 l hw gO37 gO38 gO41 gO44 gO47 gO50 gO53 gO56 gO59 gO62 gO65 gO68 gO71 gO74 gO77 gO80 gO83 z1 h2 W3.old z7 VgO37) 1 0 0 (by decide) (by rw [hml]; rfl) (lenOf pd13 rfl) [(.ref gO7)] rfl rfl 17 (hb hy d13_14) rfl rfl rfl all0 tri ?_
  intro v4 T4 h4 lo4 W4 K4 q4
  obtain rfl := q4.2.2
  show Gl _ _ _ _ _ _ _ _ [(.ref gO65), (.ref gO7)]
  refine o_virtualC W4 (w80 hw) (w81 hw) (o_nf W4 rfl (w83 hw)) (w83 hw) (w82 hw) (by decide) (XgO7.ext W4.ox) (w84 hw) (w70 hw) (rm24 l hw gO7 gO65 gO86 gO87 z2 z3 h4 W4.old z8 z9 z10 z11 z12 z13 VgO86 VgO87) 0 1 5 (by decide) (by rw [hml]; rfl) (lenOf pd19 rfl) [] rfl rfl 20 (hb hy d13_17) rfl rfl rfl all0 tri ?_
  intro v5 T5 h5 lo5 W5 K5 q5
  obtain ⟨r1_5, P5_0, P5_1, P5_2, P5_3, P5_4, P5_5, rfl⟩ := q5.2.2
  show Gl _ _ _ _ _ _ _ _ [(.ref r1_5)]
  exact o_retA W5 hlk (v := (.ref r1_5)) hret rfl rfl (hb hy d13_20) (by decide) (by decide) ⟨r1_5, (Nat.le_trans W4.keep.1 P5_0), P5_1, P5_2, P5_3, P5_4, P5_5, rfl⟩
theorem rm26 (l : Launch) {Z a0} (hw : HW Z a0) (gO3 gO4 gO7 gO10 gO13 gO16 gO19 gO22 gO25 gO28 gO31 gO34 : Addr) (z0 : ClassId) (h0 : Heap) (O0 : Old Z Z.heap.size h0) (z1 : Sta Z Z.heap s0 s12 s7 (.ref gO3)) (VgO3 : Arv Z Z.heap gO3 z0 (.object s0) (11 : Int32) [(.ref gO4), (.ref gO7), (.ref gO10), (.ref gO13), (.ref gO16), (.ref gO19), (.ref gO22), (.ref gO25), (.ref gO28), (.ref gO31), (.ref gO34)] .null) :
    CtrN l Z mn11 jdk_17_method_21_code 2 (some (.object s0)) [] (⟨0, 0, 0, 0⟩ : Room) #[(.long 2)] h0 [] (fun v h => v = some (.ref gO10)) := by
  refine CtrN.intro (L0 := #[.val (.long 2), .second]) (plainFor_of_name pn4) O0 (fun _ => rfl) ?_
  intro p e s m below meth c T0 hy hml hret hlk hnm W0
  refine o_lloadN W0 1 (hb hy d14_0) rfl rfl <| o_lconst W0 (v := 0) 2 (hb hy d14_1) (by decide) rfl <| o_lcmp W0 (v := 1) 3 (hb hy d14_2) (by decide) rfl <| o_ifN W0 6 (hb hy d14_3) (XT.i0_lt_f (by decide)) rfl <| o_lloadN W0 7 (hb hy d14_6) rfl rfl ?_
  refine o_getS W0 (w72 hw) Via.refl (z1.ext W0.ox) 10 (hb hy d14_7) rfl ?_
  intro T1 W1
  refine o_len W1 (VgO3.ext W1.ox) 11 (hb hy d14_10) rfl <| o_i2l W1 (v := 11) 12 (hb hy d14_11) (by decide) rfl <| o_lcmp W1 (v := (-1 : Int32)) 13 (hb hy d14_12) (by decide) rfl <| o_ifN W1 16 (hb hy d14_13) (XT.i0_ge_f (by decide)) rfl ?_
  refine o_getS W1 (w72 hw) Via.refl (z1.ext W1.ox) 19 (hb hy d14_16) rfl ?_
  intro T2 W2
  refine o_lloadN W2 20 (hb hy d14_19) rfl rfl <| o_l2i W2 (v := 2) 21 (hb hy d14_20) (by decide) rfl ?_
  refine o_aaload W2 (VgO3.ext W2.ox) rfl (v := (.ref gO10)) (i := 2) (by decide) (by decide) (by decide) rfl 22 (hb hy d14_21) rfl ?_
  exact o_retA W2 hlk (v := (.ref gO10)) hret rfl rfl (hb hy d14_22) (by decide) (by decide) rfl
theorem rm27 (l : Launch) {Z a0} (hw : HW Z a0) (a1 : Addr) (h0 : Heap) (O0 : Old Z Z.heap.size h0) :
    CtrN l Z mn23 jdk_17_method_106_code 5 (some .int) [] (⟨0, 0, 0, 0⟩ : Room) #[(.ref a1), (.long 9)] h0 [] (fun v h => v = some (.int 9)) := by
  refine CtrN.intro (L0 := #[vr a1, .val (.long 9), .second, un, un]) (plainFor_of_name pn4) O0 (fun _ => rfl) ?_
  intro p e s m below meth c T0 hy hml hret hlk hnm W0
  refine o_lloadN W0 1 (hb hy d26_0) rfl rfl <| o_l2i W0 (v := 9) 2 (hb hy d26_1) (by decide) rfl <| o_istoreN W0 (L' := #[vr a1, .val (.long 9), .second, vi 9, un]) 3 (hb hy d26_2) rfl rfl <| o_iloadN W0 4 (hb hy d26_3) rfl rfl <| o_i2l W0 (v := 9) 5 (hb hy d26_4) (by decide) rfl <| o_lloadN W0 6 (hb hy d26_5) rfl rfl ?_
  refine o_lcmp W0 (v := 0) 7 (hb hy d26_6) (by decide) rfl <| o_ifY W0 76 (hb hy d26_7) (XT.i0_eq_t (by decide)) (by decide) rfl <| o_iloadN W0 77 (hb hy d26_76) rfl rfl ?_
  exact o_retI W0 hlk hret (hb hy d26_77) (by decide) (by decide) rfl
theorem rm28 (l : Launch) {Z a0} (hw : HW Z a0) (y1 : Int64) (h0 : Heap) (O0 : Old Z Z.heap.size h0) (hc1 : ¬ ((lcmpW y1 (0 : Int64)) < (0 : Int32))) :
    CtrN l Z mn24 jdk_29_method_61_code 2 (some .long) [] (⟨0, 0, 0, 0⟩ : Room) #[(.long y1)] h0 [] (fun v h => v = some (.long y1)) := by
  refine CtrN.intro (L0 := #[.val (.long y1), .second]) (Jvm.Free.JP.mathPlain rfl (by decide +kernel)) O0 (fun _ => rfl) ?_
  intro p e s m below meth c T0 hy hml hret hlk hnm W0
  refine o_lloadN W0 1 (hb hy d29_0) rfl rfl <| o_lconst W0 (v := 0) 2 (hb hy d29_1) (by decide) rfl <| o_lcmp W0 (v := (lcmpW y1 (0 : Int64))) 3 (hb hy d29_2) rfl rfl <| o_ifY W0 11 (hb hy d29_3) (XT.i0_ge_t hc1) (by decide) rfl <| o_lloadN W0 12 (hb hy d29_11) rfl rfl ?_
  exact o_retJ W0 hlk hret (hb hy d29_12) (by decide) (by decide) rfl
theorem rm29 (l : Launch) {Z a0} (hw : HW Z a0)  (h0 : Heap) (O0 : Old Z Z.heap.size h0) :
    CtrN l Z mn24 jdk_29_method_61_code 2 (some .long) [] (⟨0, 0, 0, 0⟩ : Room) #[(.long 2)] h0 [] (fun v h => v = some (.long 2)) := by
  refine CtrN.intro (L0 := #[.val (.long 2), .second]) (Jvm.Free.JP.mathPlain rfl (by decide +kernel)) O0 (fun _ => rfl) ?_
  intro p e s m below meth c T0 hy hml hret hlk hnm W0
  refine o_lloadN W0 1 (hb hy d29_0) rfl rfl <| o_lconst W0 (v := 0) 2 (hb hy d29_1) (by decide) rfl <| o_lcmp W0 (v := 1) 3 (hb hy d29_2) (by decide) rfl <| o_ifY W0 11 (hb hy d29_3) (XT.i0_ge_t (by decide)) (by decide) rfl <| o_lloadN W0 12 (hb hy d29_11) rfl rfl ?_
  exact o_retJ W0 hlk hret (hb hy d29_12) (by decide) (by decide) rfl
theorem rm30 (l : Launch) {Z a0} (hw : HW Z a0) (y1 : Int64) (h0 : Heap) (O0 : Old Z Z.heap.size h0) (hc1 : ¬ ((lcmpW y1 (0 : Int64)) < (0 : Int32))) (hc4 : (lcmpW (((y1 ||| (2 : Int64)).toUInt64 >>> ((31 : Int32) &&& 0x3f).toInt64.toUInt64).toInt64) (0 : Int64)) = (0 : Int32)) :
    CtrN l Z mn25 jdk_17_method_156_code 10 (some .long) [] (⟨1, 0, 0, 13⟩ : Room) #[(.long y1), (.long 2)] h0 [] (fun v h => v = some (.long (y1 * (2 : Int64)))) := by
  refine CtrN.intro (L0 := #[.val (.long y1), .second, .val (.long 2), .second, un, un, un, un, un, un]) (plainFor_of_name pn4) O0 (fun _ => rfl) ?_
  intro p e s m below meth c T0 hy hml hret hlk hnm W0
  refine o_lloadN W0 1 (hb hy d28_0) rfl rfl <| o_lloadN W0 2 (hb hy d28_1) rfl rfl <| o_lmul W0 (v := (y1 * (2 : Int64))) 3 (hb hy d28_2) rfl rfl <| o_lstore W0 (L' := #[.val (.long y1), .second, .val (.long 2), .second, .val (.long (y1 * (2 : Int64))), .second, un, un, un, un]) 5 (hb hy d28_3) rfl rfl <| o_lloadN W0 6 (hb hy d28_5) rfl rfl ?_
  refine o_staticC W0 (w141 hw) (w142 hw) (w23 hw) (w143 hw) (by decide) (rm28 l hw y1 h0 W0.old hc1) 0 0 0 (by decide) (by rw [hml]; rfl) (lenOf pd22 rfl) [] rfl rfl 9 (hb hy d28_6) rfl rfl rfl all0 tri ?_
  intro v2 T2 h2 lo2 W2 K2 q2
  obtain rfl := q2.2.2
  show Gl _ _ _ _ _ _ _ _ [(.long y1)]
  refine o_lstore W2 (L' := #[.val (.long y1), .second, .val (.long 2), .second, .val (.long (y1 * (2 : Int64))), .second, .val (.long y1), .second, un, un]) 11 (hb hy d28_9) rfl rfl <| o_lloadN W2 12 (hb hy d28_11) rfl rfl ?_
  refine o_staticC W2 (w141 hw) (w142 hw) (w23 hw) (w143 hw) (by decide) (rm29 l hw  h2 W2.old ) 0 0 0 (by decide) (by rw [hml]; rfl) (lenOf pd22 rfl) [] rfl rfl 15 (hb hy d28_12) rfl rfl rfl all0 tri ?_
  intro v3 T3 h3 lo3 W3 K3 q3
  obtain rfl := q3.2.2
  show Gl _ _ _ _ _ _ _ _ [(.long 2)]
  refine o_lstore W3 (L' := #[.val (.long y1), .second, .val (.long 2), .second, .val (.long (y1 * (2 : Int64))), .second, .val (.long y1), .second, .val (.long 2), .second]) 17 (hb hy d28_15) rfl rfl <| o_lload W3 19 (hb hy d28_17) rfl rfl <| o_lload W3 21 (hb hy d28_19) rfl rfl <| o_lor W3 (v := (y1 ||| (2 : Int64))) 22 (hb hy d28_21) rfl rfl <| o_bipush W3 (v := 31) 24 (hb hy d28_22) (by decide) rfl <| o_lushr W3 (v := (((y1 ||| (2 : Int64)).toUInt64 >>> ((31 : Int32) &&& 0x3f).toInt64.toUInt64).toInt64)) 25 (hb hy d28_24) rfl rfl ?_
  refine o_lconst W3 (v := 0) 26 (hb hy d28_25) (by decide) rfl <| o_lcmp W3 (v := (lcmpW (((y1 ||| (2 : Int64)).toUInt64 >>> ((31 : Int32) &&& 0x3f).toInt64.toUInt64).toInt64) (0 : Int64))) 27 (hb hy d28_26) rfl rfl <| o_ifY W3 45 (hb hy d28_27) (XT.i0_eq_t hc4) (by decide) rfl <| o_lload W3 47 (hb hy d28_45) rfl rfl ?_
  exact o_retJ W3 hlk hret (hb hy d28_47) (by decide) (by decide) rfl
theorem rm31 (l : Launch) {Z a0} (hw : HW Z a0) (y1 : Int64) (h0 : Heap) (O0 : Old Z Z.heap.size h0) (hc1 : ¬ ((lcmpW y1 (0 : Int64)) < (0 : Int32))) (hc2 : (lcmpW (((y1 ||| (2 : Int64)).toUInt64 >>> ((31 : Int32) &&& 0x3f).toInt64.toUInt64).toInt64) (0 : Int64)) = (0 : Int32)) (hc4 : ¬ ((lcmpW (y1 * (2 : Int64)) (-9223372036854775808 : Int64)) = (0 : Int32))) (hc5 : ¬ ((lcmpW (y1 * (2 : Int64)) (0 : Int64)) = (0 : Int32))) :
    CtrN l Z mn26 jdk_17_method_157_code 7 (some (.object s0)) [] (⟨4, 1, 5, 56⟩ : Room) #[(.long y1), (.long 2), (.int 9)] h0 [] (fun v h => ∃ r1 : Addr, h0.size ≤ r1 ∧ Exa Z h r1 s0 ∧ Fld Z h r1 s0 s4 "J" (.long (y1 * (2 : Int64))) ∧ Fld Z h r1 s0 "scale" "I" (.int 9) ∧ Fld Z h r1 s0 s10 "I" iZ ∧ Fld Z h r1 s0 "intVal" s5 .null ∧ v = some (.ref r1)) := by
  refine CtrN.intro (L0 := #[.val (.long y1), .second, .val (.long 2), .second, vi 9, un, un]) (plainFor_of_name pn4) O0 (fun _ => rfl) ?_
  intro p e s m below meth c T0 hy hml hret hlk hnm W0
  refine o_lloadN W0 1 (hb hy d27_0) rfl rfl <| o_lloadN W0 2 (hb hy d27_1) rfl rfl ?_
  refine o_staticC W0 (w138 hw) (w139 hw) (w70 hw) (w140 hw) (by decide) (rm30 l hw y1 h0 W0.old hc1 hc2) 0 0 0 (by decide) (by rw [hml]; rfl) (lenOf pd15 rfl) [] rfl rfl 5 (hb hy d27_2) rfl rfl rfl all0 tri ?_
  intro v3 T3 h3 lo3 W3 K3 q3
  obtain rfl := q3.2.2
  show Gl _ _ _ _ _ _ _ _ [(.long (y1 * (2 : Int64)))]
  refine o_lstore W3 (L' := #[.val (.long y1), .second, .val (.long 2), .second, vi 9, .val (.long (y1 * (2 : Int64))), .second]) 7 (hb hy d27_5) rfl rfl <| o_lload W3 9 (hb hy d27_7) rfl rfl <| o_ldcJ W3 (w87 hw) 12 (hb hy d27_9) rfl <| o_lcmp W3 (v := (lcmpW (y1 * (2 : Int64)) (-9223372036854775808 : Int64))) 13 (hb hy d27_12) rfl rfl <| o_ifN W3 16 (hb hy d27_13) (XT.i0_eq_f hc4) rfl <| o_lload W3 18 (hb hy d27_16) rfl rfl ?_
  refine o_iload W3 20 (hb hy d27_18) rfl rfl ?_
  refine o_staticC W3 (w107 hw) (w74 hw) (w70 hw) (w75 hw) (by decide) (rm21 l hw (y1 * (2 : Int64)) h3 W3.old hc5 hc4) 0 1 5 (by decide) (by rw [hml]; rfl) (lenOf pd13 rfl) [] rfl rfl 23 (hb hy d27_20) rfl rfl rfl all0 tri ?_
  intro v6 T6 h6 lo6 W6 K6 q6
  obtain ⟨r1_6, P6_0, P6_1, P6_2, P6_3, P6_4, P6_5, rfl⟩ := q6.2.2
  show Gl _ _ _ _ _ _ _ _ [(.ref r1_6)]
  exact o_retA W6 hlk (v := (.ref r1_6)) hret rfl rfl (hb hy d27_23) (by decide) (by decide) ⟨r1_6, (Nat.le_trans W3.keep.1 P6_0), P6_1, P6_2, P6_3, P6_4, P6_5, rfl⟩
theorem rm32 (l : Launch) {Z a0} (hw : HW Z a0) (gO10 a1 : Addr) (y1 : Int64) (h0 : Heap) (O0 : Old Z Z.heap.size h0) (z0 : Fld Z h0 a1 s0 "scale" "I" (.int 9)) (z1 : Fld Z Z.heap gO10 s0 "scale" "I" iZ) (z2 : Exa Z h0 a1 s0) (z3 : Fld Z h0 a1 s0 s4 "J" (.long y1)) (hc6 : ¬ ((lcmpW y1 (-9223372036854775808 : Int64)) = (0 : Int32))) (z4 : Fld Z Z.heap gO10 s0 s4 "J" (.long 2)) (hc10 : ¬ ((lcmpW y1 (0 : Int64)) < (0 : Int32))) (hc11 : (lcmpW (((y1 ||| (2 : Int64)).toUInt64 >>> ((31 : Int32) &&& 0x3f).toInt64.toUInt64).toInt64) (0 : Int64)) = (0 : Int32)) (hc12 : ¬ ((lcmpW (y1 * (2 : Int64)) (-9223372036854775808 : Int64)) = (0 : Int32))) (hc13 : ¬ ((lcmpW (y1 * (2 : Int64)) (0 : Int64)) = (0 : Int32))) :
    CtrN l Z mn27 jdk_17_method_31_code 3 (some (.object s0)) [] (⟨5, 1, 5, 74⟩ : Room) #[(.ref a1), (.ref gO10)] h0 [] (fun v h => ∃ r1 : Addr, h0.size ≤ r1 ∧ Exa Z h r1 s0 ∧ Fld Z h r1 s0 s4 "J" (.long (y1 * (2 : Int64))) ∧ Fld Z h r1 s0 "scale" "I" (.int 9) ∧ Fld Z h r1 s0 s10 "I" iZ ∧ Fld Z h r1 s0 "intVal" s5 .null ∧ v = some (.ref r1)) := by
  refine CtrN.intro (L0 := #[vr a1, vr gO10, un]) (plainFor_of_name pn4) O0 (fun _ => rfl) ?_
  intro p e s m below meth c T0 hy hml hret hlk hnm W0
  refine o_aloadN W0 1 (hb hy d25_0) rfl rfl rfl <| o_aloadN W0 2 (hb hy d25_1) rfl rfl rfl ?_
  refine o_getF W0 (w88 hw) Via.refl z0 5 (hb hy d25_2) rfl ?_
  intro T1 W1
  refine o_i2l W1 (v := 9) 6 (hb hy d25_5) (by decide) rfl <| o_aloadN W1 7 (hb hy d25_6) rfl rfl rfl ?_
  refine o_getF W1 (w88 hw) Via.refl (z1.ext W1.ox) 10 (hb hy d25_7) rfl ?_
  intro T2 W2
  refine o_i2l W2 (v := 0) 11 (hb hy d25_10) (by decide) rfl <| o_ladd W2 (v := 9) 12 (hb hy d25_11) (by decide) rfl ?_
  refine o_privateC W2 (w130 hw) (w131 hw) (w133 hw) (w132 hw) (w134 hw) (by decide) z2 (w70 hw) (rm27 l hw a1 h0 W2.old ) 0 0 0 (by decide) (by rw [hml]; rfl) (lenOf pd21 rfl) [] rfl rfl 15 (hb hy d25_12) rfl rfl rfl all0 tri ?_
  intro v3 T3 h3 lo3 W3 K3 q3
  obtain rfl := q3.2.2
  show Gl _ _ _ _ _ _ _ _ [(.int 9)]
  refine o_istoreN W3 (L' := #[vr a1, vr gO10, vi 9]) 16 (hb hy d25_15) rfl rfl <| o_aloadN W3 17 (hb hy d25_16) rfl rfl rfl ?_
  have c4 := (z3.keep K3 nin0)
  refine o_getF W3 (w85 hw) Via.refl c4 20 (hb hy d25_17) rfl ?_
  intro T5 W5
  refine o_ldcJ W5 (w87 hw) 23 (hb hy d25_20) rfl <| o_lcmp W5 (v := (lcmpW y1 (-9223372036854775808 : Int64))) 24 (hb hy d25_23) rfl rfl <| o_ifN W5 27 (hb hy d25_24) (XT.i0_eq_f hc6) rfl <| o_aloadN W5 28 (hb hy d25_27) rfl rfl rfl ?_
  refine o_getF W5 (w85 hw) Via.refl (z4.ext W5.ox) 31 (hb hy d25_28) rfl ?_
  intro T7 W7
  refine o_ldcJ W7 (w87 hw) 34 (hb hy d25_31) rfl <| o_lcmp W7 (v := 1) 35 (hb hy d25_34) (by decide) rfl <| o_ifN W7 38 (hb hy d25_35) (XT.i0_eq_f (by decide)) rfl <| o_aloadN W7 39 (hb hy d25_38) rfl rfl rfl ?_
  refine o_getF W7 (w85 hw) Via.refl c4 42 (hb hy d25_39) rfl ?_
  intro T8 W8
  refine o_aloadN W8 43 (hb hy d25_42) rfl rfl rfl ?_
  refine o_getF W8 (w85 hw) Via.refl (z4.ext W8.ox) 46 (hb hy d25_43) rfl ?_
  intro T9 W9
  refine o_iloadN W9 47 (hb hy d25_46) rfl rfl ?_
  refine o_staticC W9 (w135 hw) (w136 hw) (w70 hw) (w137 hw) (by decide) (rm31 l hw y1 h3 W9.old hc10 hc11 hc12 hc13) 0 1 5 (by decide) (by rw [hml]; rfl) (lenOf pd17 rfl) [] rfl rfl 50 (hb hy d25_47) rfl rfl rfl all0 tri ?_
  intro v14 T14 h14 lo14 W14 K14 q14
  obtain ⟨r1_14, P14_0, P14_1, P14_2, P14_3, P14_4, P14_5, rfl⟩ := q14.2.2
  show Gl _ _ _ _ _ _ _ _ [(.ref r1_14)]
  exact o_retA W14 hlk (v := (.ref r1_14)) hret rfl rfl (hb hy d25_50) (by decide) (by decide) ⟨r1_14, (Nat.le_trans W9.keep.1 P14_0), P14_1, P14_2, P14_3, P14_4, P14_5, rfl⟩
theorem rm33 (l : Launch) {Z a0} (hw : HW Z a0) (a1 : Addr) (h0 : Heap) (O0 : Old Z Z.heap.size h0) :
    CtrN l Z mn23 jdk_17_method_106_code 5 (some .int) [] (⟨0, 0, 0, 0⟩ : Room) #[(.ref a1), (.long 0)] h0 [] (fun v h => v = some iZ) := by
  refine CtrN.intro (L0 := #[vr a1, .val (.long 0), .second, un, un]) (plainFor_of_name pn4) O0 (fun _ => rfl) ?_
  intro p e s m below meth c T0 hy hml hret hlk hnm W0
  refine o_lloadN W0 1 (hb hy d26_0) rfl rfl <| o_l2i W0 (v := 0) 2 (hb hy d26_1) (by decide) rfl <| o_istoreN W0 (L' := #[vr a1, .val (.long 0), .second, vi 0, un]) 3 (hb hy d26_2) rfl rfl <| o_iloadN W0 4 (hb hy d26_3) rfl rfl <| o_i2l W0 (v := 0) 5 (hb hy d26_4) (by decide) rfl <| o_lloadN W0 6 (hb hy d26_5) rfl rfl ?_
  refine o_lcmp W0 (v := 0) 7 (hb hy d26_6) (by decide) rfl <| o_ifY W0 76 (hb hy d26_7) (XT.i0_eq_t (by decide)) (by decide) rfl <| o_iloadN W0 77 (hb hy d26_76) rfl rfl ?_
  exact o_retI W0 hlk hret (hb hy d26_77) (by decide) (by decide) rfl
theorem rm34 (l : Launch) {Z a0} (hw : HW Z a0) (a1 : Addr) (y1 : Int64) (h0 : Heap) (O0 : Old Z Z.heap.size h0) (z0 : Exa Z h0 a1 s0) (z1 : Fld Z h0 a1 s0 "scale" "I" iZ) (z2 : Z.heap.size ≤ a1) (z3 : Fld Z h0 a1 s0 s10 "I" iZ) (z4 : Fld Z h0 a1 s0 s4 "J" (.long 0)) (z5 : Fld Z h0 a1 s0 "intVal" s5 .null) :
    CtrN l Z mn18 jdk_17_method_1_code 6 none [] (⟨2, 0, 0, 24⟩ : Room) #[(.ref a1), .null, (.long y1), iZ, iZ] h0 [a1] (fun v h => Fld Z h a1 s0 "scale" "I" iZ ∧ Fld Z h a1 s0 s10 "I" iZ ∧ Fld Z h a1 s0 s4 "J" (.long y1) ∧ Fld Z h a1 s0 "intVal" s5 .null ∧ v = none) := by
  refine CtrN.intro (L0 := #[vr a1, .val .null, .val (.long y1), .second, vi 0, vi 0]) (plainFor_of_name pn4) O0 (fun _ => rfl) ?_
  intro p e s m below meth c T0 hy hml hret hlk hnm W0
  refine o_aloadN W0 1 (hb hy d23_0) rfl rfl rfl ?_
  refine o_specialC W0 rfl (w114 hw) (w115 hw) (w119 hw) (by decide) (w118 hw) (rm19 l hw a1 h0 W0.old ) 0 0 0 (by decide) (by rw [hml]; rfl) (lenOf pd0 rfl) [] rfl rfl 4 (hb hy d23_1) rfl rfl rfl all0 tri ?_
  intro v1 T1 h1 lo1 W1 K1 q1
  obtain rfl := q1.2.2
  show Gl _ _ _ _ _ _ _ _ []
  refine o_aloadN W1 5 (hb hy d23_4) rfl rfl rfl <| o_iload W1 7 (hb hy d23_5) rfl rfl ?_
  have c2 := (z0.keep K1)
  have c3 := (z1.keep K1 nin0)
  refine o_putF W1 (w88 hw) Via.refl c3 c2 (Or.inr ⟨(w89 hw), rfl, hnm⟩) (w109 hw) (ty := .int) (v' := iZ) (by decide) rfl rfl z2 m0 tri 10 (hb hy d23_7) rfl ?_
  intro T4 h4 lo4 W4 R4
  have F4 := c3.same R4
  refine o_aloadN W4 11 (hb hy d23_10) rfl rfl rfl <| o_iload W4 13 (hb hy d23_11) rfl rfl ?_
  have c5 := (c2.wr R4)
  have c6 := ((z3.keep K1 nin0).other R4 (Or.inr (slot_ne (Or.inl (w122 hw)) (Or.inr (w89 hw)) (by decide) (t := .int) (t' := .int) (by decide) (by decide))))
  refine o_putF W4 (w121 hw) Via.refl c6 c5 (Or.inl (w122 hw)) (w109 hw) (ty := .int) (v' := iZ) (by decide) rfl rfl z2 m0 tri 16 (hb hy d23_13) rfl ?_
  intro T7 h7 lo7 W7 R7
  have F7 := c6.same R7
  refine o_aloadN W7 17 (hb hy d23_16) rfl rfl rfl <| o_lloadN W7 18 (hb hy d23_17) rfl rfl ?_
  have c8 := (c5.wr R7)
  have c9 := (((z4.keep K1 nin0).other R4 (Or.inr (slot_ne (Or.inr (w86 hw)) (Or.inr (w89 hw)) (by decide) (t := .long) (t' := .int) (by decide) (by decide)))).other R7 (Or.inr (slot_ne (Or.inr (w86 hw)) (Or.inl (w122 hw)) (by decide) (t := .long) (t' := .int) (by decide) (by decide))))
  refine o_putF W7 (w85 hw) Via.refl c9 c8 (Or.inr ⟨(w86 hw), rfl, hnm⟩) (w109 hw) (ty := .long) (v' := (.long y1)) (by decide) rfl rfl z2 m0 tri 21 (hb hy d23_18) rfl ?_
  intro T10 h10 lo10 W10 R10
  have F10 := c9.same R10
  refine o_aloadN W10 22 (hb hy d23_21) rfl rfl rfl <| o_aloadN W10 23 (hb hy d23_22) rfl rfl rfl ?_
  have c11 := (c8.wr R10)
  have c12 := ((((z5.keep K1 nin0).other R4 (Or.inr (slot_ne (Or.inr (w124 hw)) (Or.inr (w89 hw)) (by decide) (t := (.object s1)) (t' := .int) (by decide) (by decide)))).other R7 (Or.inr (slot_ne (Or.inr (w124 hw)) (Or.inl (w122 hw)) (by decide) (t := (.object s1)) (t' := .int) (by decide) (by decide)))).other R10 (Or.inr (slot_ne (Or.inr (w124 hw)) (Or.inr (w86 hw)) (by decide) (t := (.object s1)) (t' := .long) (by decide) (by decide))))
  refine o_putF W10 (w123 hw) Via.refl c12 c11 (Or.inr ⟨(w124 hw), rfl, hnm⟩) (w109 hw) (ty := (.object s1)) (v' := .null) (by decide) rfl rfl z2 m0 tri 26 (hb hy d23_23) rfl ?_
  intro T13 h13 lo13 W13 R13
  have F13 := c12.same R13
  have c14 := (F10.other R13 (Or.inr (slot_ne (Or.inr (w86 hw)) (Or.inr (w124 hw)) (by decide) (t := .long) (t' := (.object s1)) (by decide) (by decide))))
  have c15 := (((F4.other R7 (Or.inr (slot_ne (Or.inr (w89 hw)) (Or.inl (w122 hw)) (by decide) (t := .int) (t' := .int) (by decide) (by decide)))).other R10 (Or.inr (slot_ne (Or.inr (w89 hw)) (Or.inr (w86 hw)) (by decide) (t := .int) (t' := .long) (by decide) (by decide)))).other R13 (Or.inr (slot_ne (Or.inr (w89 hw)) (Or.inr (w124 hw)) (by decide) (t := .int) (t' := (.object s1)) (by decide) (by decide))))
  have c16 := ((F7.other R10 (Or.inr (slot_ne (Or.inl (w122 hw)) (Or.inr (w86 hw)) (by decide) (t := .int) (t' := .long) (by decide) (by decide)))).other R13 (Or.inr (slot_ne (Or.inl (w122 hw)) (Or.inr (w124 hw)) (by decide) (t := .int) (t' := (.object s1)) (by decide) (by decide))))
  have c17 := (c11.wr R13)
  exact o_ret0 W13 hlk hret (hb hy d23_26) (by decide) (by decide) ⟨c15, c16, c14, F13, rfl⟩
theorem rm35 (l : Launch) {Z a0} (hw : HW Z a0) (a1 : Addr) (y1 : Int64) (h0 : Heap) (O0 : Old Z Z.heap.size h0) (z0 : Fld Z h0 a1 s0 "scale" "I" (.int 9)) (z1 : Exa Z h0 a1 s0) (z2 : Fld Z h0 a1 s0 "intVal" s5 .null) (z3 : Fld Z h0 a1 s0 s4 "J" (.long y1)) :
    CtrN l Z mn28 jdk_17_method_67_code 4 (some (.object s0)) [] (⟨3, 1, 5, 42⟩ : Room) #[(.ref a1), (.int 9)] h0 [] (fun v h => ∃ r1 : Addr, h0.size ≤ r1 ∧ Exa Z h r1 s0 ∧ Fld Z h r1 s0 s4 "J" (.long y1) ∧ Fld Z h r1 s0 "scale" "I" iZ ∧ Fld Z h r1 s0 s10 "I" iZ ∧ Fld Z h r1 s0 "intVal" s5 .null ∧ v = some (.ref r1)) := by
  refine CtrN.intro (L0 := #[vr a1, vi 9, un, un]) (plainFor_of_name pn4) O0 (fun _ => rfl) ?_
  intro p e s m below meth c T0 hy hml hret hlk hnm W0
  refine o_iloadN W0 1 (hb hy d31_0) rfl rfl <| o_ifY W0 13 (hb hy d31_1) (XT.i0_ne_t (by decide)) (by decide) rfl <| o_aloadN W0 14 (hb hy d31_13) rfl rfl rfl <| o_aloadN W0 15 (hb hy d31_14) rfl rfl rfl ?_
  refine o_getF W0 (w88 hw) Via.refl z0 18 (hb hy d31_15) rfl ?_
  intro T1 W1
  refine o_i2l W1 (v := 9) 19 (hb hy d31_18) (by decide) rfl <| o_iloadN W1 20 (hb hy d31_19) rfl rfl <| o_i2l W1 (v := 9) 21 (hb hy d31_20) (by decide) rfl <| o_lsub W1 (v := 0) 22 (hb hy d31_21) (by decide) rfl ?_
  refine o_privateC W1 (w130 hw) (w131 hw) (w133 hw) (w132 hw) (w134 hw) (by decide) z1 (w70 hw) (rm33 l hw a1 h0 W1.old ) 0 0 0 (by decide) (by rw [hml]; rfl) (lenOf pd21 rfl) [] rfl rfl 25 (hb hy d31_22) rfl rfl rfl all0 tri ?_
  intro v2 T2 h2 lo2 W2 K2 q2
  obtain rfl := q2.2.2
  show Gl _ _ _ _ _ _ _ _ [iZ]
  refine o_istoreN W2 (L' := #[vr a1, vi 9, vi 0, un]) 26 (hb hy d31_25) rfl rfl ?_
  refine o_new W2 (w108 hw) (w109 hw) (w70 hw) tri 29 (hb hy d31_26) rfl (cells' := 1) (slots' := 5) rfl rfl (by decide) (by decide) ?_
  intro b3 T3 h3 W3 E3 ge3 gz3 gb3 A3 D3
  have Fb3_intCompact : Fld Z h3 b3 s0 s4 "J" (.long 0) := D3 (Or.inr (w86 hw)) (ty := .long) (by decide)
  have Fb3_scale : Fld Z h3 b3 s0 "scale" "I" iZ := D3 (Or.inr (w89 hw)) (ty := .int) (by decide)
  have Fb3_precision : Fld Z h3 b3 s0 s10 "I" iZ := D3 (Or.inl (w122 hw)) (ty := .int) (by decide)
  have Fb3_intVal : Fld Z h3 b3 s0 "intVal" s5 .null := D3 (Or.inr (w124 hw)) (ty := (.object s1)) (by decide)
  refine o_dup W3 30 (hb hy d31_29) rfl rfl <| o_aloadN W3 31 (hb hy d31_30) rfl rfl rfl ?_
  have c4 := ((z2.keep K2 nin0).ext E3)
  refine o_getF W3 (w123 hw) Via.refl c4 34 (hb hy d31_31) rfl ?_
  intro T5 W5
  refine o_aloadN W5 35 (hb hy d31_34) rfl rfl rfl ?_
  have c6 := ((z3.keep K2 nin0).ext E3)
  refine o_getF W5 (w85 hw) Via.refl c6 38 (hb hy d31_35) rfl ?_
  intro T7 W7
  refine o_iloadN W7 39 (hb hy d31_38) rfl rfl <| o_iconst W7 (v := 0) 40 (hb hy d31_39) rfl rfl ?_
  refine o_specialC W7 rfl (w110 hw) (w111 hw) (w113 hw) (by decide) (w70 hw) (rm34 l hw b3 y1 h3 W7.old A3 Fb3_scale gz3 Fb3_precision Fb3_intCompact Fb3_intVal) 1 1 5 (by decide) (by rw [hml]; rfl) (lenOf pd16 rfl) [(.ref b3)] rfl rfl 43 (hb hy d31_40) rfl rfl rfl (allS ⟨gz3, (Or.inr gb3)⟩ all0) tri ?_
  intro v8 T8 h8 lo8 W8 K8 q8
  obtain ⟨P8_0, P8_1, P8_2, P8_3, rfl⟩ := q8.2.2
  show Gl _ _ _ _ _ _ _ _ [(.ref b3)]
  refine o_astoreN W8 (L' := #[vr a1, vi 9, vi 0, vr b3]) 44 (hb hy d31_43) rfl rfl rfl <| o_aloadN W8 45 (hb hy d31_44) rfl rfl rfl ?_
  refine o_getF W8 (w88 hw) Via.refl P8_0 48 (hb hy d31_45) rfl ?_
  intro T9 W9
  refine o_ifY W9 61 (hb hy d31_48) (XT.i0_ge_t (by decide)) (by decide) rfl <| o_aloadN W9 62 (hb hy d31_61) rfl rfl rfl ?_
  have c10 := (A3.keep K8)
  exact o_retA W9 hlk (v := (.ref b3)) hret rfl rfl (hb hy d31_62) (by decide) (by decide) ⟨b3, gb3, c10, P8_2, P8_0, P8_1, P8_3, rfl⟩
theorem rm36 (l : Launch) {Z a0} (hw : HW Z a0) (a1 : Addr) (h0 : Heap) (O0 : Old Z Z.heap.size h0) (z0 : Fld Z h0 a1 s0 "scale" "I" iZ) :
    CtrN l Z mn29 jdk_17_method_64_code 8 (some (.object s0)) [] (⟨0, 0, 0, 0⟩ : Room) #[(.ref a1), iZ, (.int 7)] h0 [] (fun v h => v = some (.ref a1)) := by
  refine CtrN.intro (L0 := #[vr a1, vi 0, vi 7, un, un, un, un, un]) (plainFor_of_name pn4) O0 (fun _ => rfl) ?_
  intro p e s m below meth c T0 hy hml hret hlk hnm W0
  refine o_iloadN W0 1 (hb hy d33_0) rfl rfl <| o_ifN W0 4 (hb hy d33_1) (XT.i0_lt_f (by decide)) rfl <| o_iloadN W0 5 (hb hy d33_4) rfl rfl <| o_bipush W0 (v := 7) 7 (hb hy d33_5) (by decide) rfl <| o_icmpY W0 21 (hb hy d33_7) (XT.ii_le_t (by decide)) (by decide) rfl <| o_aloadN W0 22 (hb hy d33_21) rfl rfl rfl ?_
  refine o_getF W0 (w88 hw) Via.refl z0 25 (hb hy d33_22) rfl ?_
  intro T1 W1
  refine o_istoreN W1 (L' := #[vr a1, vi 0, vi 7, vi 0, un, un, un, un]) 26 (hb hy d33_25) rfl rfl <| o_iloadN W1 27 (hb hy d33_26) rfl rfl <| o_iloadN W1 28 (hb hy d33_27) rfl rfl <| o_icmpN W1 31 (hb hy d33_28) (XT.ii_ne_f (by decide)) rfl <| o_aloadN W1 32 (hb hy d33_31) rfl rfl rfl ?_
  exact o_retA W1 hlk (v := (.ref a1)) hret rfl rfl (hb hy d33_32) (by decide) (by decide) rfl
theorem rm37 (l : Launch) {Z a0} (hw : HW Z a0) (a1 : Addr) (y1 : Int64) (h0 : Heap) (O0 : Old Z Z.heap.size h0) (hc2 : ¬ ((lcmpW y1 (0 : Int64)) < (0 : Int32))) (z0 : Exa Z h0 a1 s1) (z1 : Fld Z h0 a1 s1 "signum" "I" iZ) (z2 : Z.heap.size ≤ a1) (hc6 : (((y1.toUInt64 >>> ((32 : Int32) &&& 0x3f).toInt64.toUInt64).toInt64).toInt32) = (0 : Int32)) (z3 : Fld Z h0 a1 s1 "mag" "[I" .null) (z4 : Fld Z h0 a1 s1 s8 "I" iZ) :
    CtrN l Z mn30 jdk_2097_method_30_code 4 none [] (⟨2, 1, 1, 24⟩ : Room) #[(.ref a1), (.long y1)] h0 [a1] (fun v h => ∃ r1 : Addr, ∃ r2 : ClassId, h0.size ≤ r1 ∧ Fld Z h a1 s1 "signum" "I" (.int 1) ∧ Fld Z h a1 s1 "mag" "[I" (.ref r1) ∧ Fld Z h a1 s1 s8 "I" iZ ∧ Arv Z h r1 r2 .int 1 [(.int (y1.toInt32))] iZ ∧ v = none) := by
  refine CtrN.intro (L0 := #[vr a1, .val (.long y1), .second, un]) (plainFor_of_name pn6) O0 (fun _ => rfl) ?_
  intro p e s m below meth c T0 hy hml hret hlk hnm W0
  refine o_aloadN W0 1 (hb hy d36_0) rfl rfl rfl ?_
  refine o_specialC W0 rfl (w178 hw) (w115 hw) (w119 hw) (by decide) (w118 hw) (rm19 l hw a1 h0 W0.old ) 0 0 0 (by decide) (by rw [hml]; rfl) (lenOf pd0 rfl) [] rfl rfl 4 (hb hy d36_1) rfl rfl rfl all0 tri ?_
  intro v1 T1 h1 lo1 W1 K1 q1
  obtain rfl := q1.2.2
  show Gl _ _ _ _ _ _ _ _ []
  refine o_lloadN W1 5 (hb hy d36_4) rfl rfl <| o_lconst W1 (v := 0) 6 (hb hy d36_5) (by decide) rfl <| o_lcmp W1 (v := (lcmpW y1 (0 : Int64))) 7 (hb hy d36_6) rfl rfl <| o_ifY W1 21 (hb hy d36_7) (XT.i0_ge_t hc2) (by decide) rfl <| o_aloadN W1 22 (hb hy d36_21) rfl rfl rfl <| o_iconst W1 (v := 1) 23 (hb hy d36_22) rfl rfl ?_
  have c3 := (z0.keep K1)
  have c4 := (z1.keep K1 nin0)
  refine o_putF W1 (w180 hw) Via.refl c4 c3 (Or.inr ⟨(w181 hw), rfl, hnm⟩) (w173 hw) (ty := .int) (v' := (.int 1)) (by decide) rfl rfl z2 m0 tri 26 (hb hy d36_23) rfl ?_
  intro T5 h5 lo5 W5 R5
  have F5 := c4.same R5
  refine o_lloadN W5 27 (hb hy d36_26) rfl rfl <| o_bipush W5 (v := 32) 29 (hb hy d36_27) (by decide) rfl <| o_lushr W5 (v := ((y1.toUInt64 >>> ((32 : Int32) &&& 0x3f).toInt64.toUInt64).toInt64)) 30 (hb hy d36_29) rfl rfl <| o_l2i W5 (v := (((y1.toUInt64 >>> ((32 : Int32) &&& 0x3f).toInt64.toUInt64).toInt64).toInt32)) 31 (hb hy d36_30) rfl rfl <| o_istoreN W5 (L' := #[vr a1, .val (.long y1), .second, .val (.int (((y1.toUInt64 >>> ((32 : Int32) &&& 0x3f).toInt64.toUInt64).toInt64).toInt32))]) 32 (hb hy d36_31) rfl rfl <| o_iloadN W5 33 (hb hy d36_32) rfl rfl ?_
  refine o_ifN W5 36 (hb hy d36_33) (XT.i0_ne_f hc6) rfl <| o_aloadN W5 37 (hb hy d36_36) rfl rfl rfl <| o_iconst W5 (v := 1) 38 (hb hy d36_37) rfl rfl ?_
  refine o_newP W5 (aty := .int) (w182 hw) tri (by decide) (cap := 1) (by decide) (by decide) 40 (hb hy d36_38) rfl (cells' := 1) (slots' := 1) rfl rfl (by decide) (by decide) (vs := [iZ]) (dv := iZ) rfl rfl ?_
  intro b7 T7 h7 k7 W7 E7 ge7 gz7 gb7 V7
  have c8 := ((c3.wr R5).ext E7)
  have c9 := (((z3.keep K1 nin0).other R5 (Or.inr (slot_ne (Or.inr (w184 hw)) (Or.inr (w181 hw)) (by decide) (t := (.array .int)) (t' := .int) (by decide) (by decide)))).ext E7)
  refine o_putF W7 (w183 hw) Via.refl c9 c8 (Or.inr ⟨(w184 hw), rfl, hnm⟩) (w173 hw) (ty := (.array .int)) (v' := (.ref b7)) (by decide) rfl rfl z2 m0 tri 43 (hb hy d36_40) rfl ?_
  intro T10 h10 lo10 W10 R10
  have F10 := c9.same R10
  refine o_aloadN W10 44 (hb hy d36_43) rfl rfl rfl ?_
  refine o_getF W10 (w183 hw) Via.refl F10 47 (hb hy d36_44) rfl ?_
  intro T11 W11
  refine o_iconst W11 (v := 0) 48 (hb hy d36_47) rfl rfl <| o_lloadN W11 49 (hb hy d36_48) rfl rfl <| o_l2i W11 (v := (y1.toInt32)) 50 (hb hy d36_49) rfl rfl ?_
  have c12 := (c3.wr R5)
  have c13 := (V7.other R10 (own_ne' c12.lt ge7))
  refine o_stI W11 c13 (i := 0) (by decide) (by decide) (by decide) (Nat.lt_of_sub_eq_succ rfl) (vs' := [(.int (y1.toInt32))]) rfl gz7 (Or.inr gb7) tri 51 (hb hy d36_50) rfl ?_
  intro T14 h14 lo14 W14 R14 V14
  refine o_goto W14 76 (hb hy d36_51) (by decide) rfl ?_
  have c15 := (((F5.ext E7).other R10 (Or.inr (slot_ne (Or.inr (w181 hw)) (Or.inr (w184 hw)) (by decide) (t := .int) (t' := (.array .int)) (by decide) (by decide)))).other R14 (Or.inl (own_ne c12.lt ge7)))
  have c16 := (F10.other R14 (Or.inl (own_ne c12.lt ge7)))
  have c17 := (((((z4.keep K1 nin0).other R5 (Or.inr (slot_ne (Or.inl (w265 hw)) (Or.inr (w181 hw)) (by decide) (t := .int) (t' := .int) (by decide) (by decide)))).ext E7).other R10 (Or.inr (slot_ne (Or.inl (w265 hw)) (Or.inr (w184 hw)) (by decide) (t := .int) (t' := (.array .int)) (by decide) (by decide)))).other R14 (Or.inl (own_ne c12.lt ge7)))
  have c18 := ((c8.wr R10).wr R14)
  exact o_ret0 W14 hlk hret (hb hy d36_76) (by decide) (by decide) ⟨b7, k7, gb7, c15, c16, c17, V14, rfl⟩
theorem rm38 (l : Launch) {Z a0} (hw : HW Z a0) (y1 : Int64) (h0 : Heap) (O0 : Old Z Z.heap.size h0) (hc1 : ¬ ((lcmpW y1 (0 : Int64)) = (0 : Int32))) (hc2 : (0 : Int32) < (lcmpW y1 (0 : Int64))) (hc3 : (0 : Int32) < (lcmpW y1 (16 : Int64))) (hc4 : ¬ ((lcmpW y1 (0 : Int64)) < (0 : Int32))) (hc6 : (((y1.toUInt64 >>> ((32 : Int32) &&& 0x3f).toInt64.toUInt64).toInt64).toInt32) = (0 : Int32)) :
    CtrN l Z mn31 jdk_2097_method_29_code 2 (some (.object s1)) [] (⟨3, 2, 7, 40⟩ : Room) #[(.long y1)] h0 [] (fun v h => ∃ r1 : Addr, ∃ r2 : Addr, ∃ r3 : ClassId, h0.size ≤ r1 ∧ h0.size ≤ r2 ∧ Exa Z h r1 s1 ∧ Fld Z h r1 s1 "signum" "I" (.int 1) ∧ Fld Z h r1 s1 "mag" "[I" (.ref r2) ∧ Fld Z h r1 s1 s8 "I" iZ ∧ Arv Z h r2 r3 .int 1 [(.int (y1.toInt32))] iZ ∧ v = some (.ref r1)) := by
  refine CtrN.intro (L0 := #[.val (.long y1), .second]) (plainFor_of_name pn6) O0 (fun _ => rfl) ?_
  intro p e s m below meth c T0 hy hml hret hlk hnm W0
  refine o_lloadN W0 1 (hb hy d35_0) rfl rfl <| o_lconst W0 (v := 0) 2 (hb hy d35_1) (by decide) rfl <| o_lcmp W0 (v := (lcmpW y1 (0 : Int64))) 3 (hb hy d35_2) rfl rfl <| o_ifY W0 10 (hb hy d35_3) (XT.i0_ne_t hc1) (by decide) rfl <| o_lloadN W0 11 (hb hy d35_10) rfl rfl <| o_lconst W0 (v := 0) 12 (hb hy d35_11) (by decide) rfl ?_
  refine o_lcmp W0 (v := (lcmpW y1 (0 : Int64))) 13 (hb hy d35_12) rfl rfl <| o_ifN W0 16 (hb hy d35_13) (XT.i0_le_f hc2) rfl <| o_lloadN W0 17 (hb hy d35_16) rfl rfl <| o_ldcJ W0 (w171 hw) 20 (hb hy d35_17) rfl <| o_lcmp W0 (v := (lcmpW y1 (16 : Int64))) 21 (hb hy d35_20) rfl rfl <| o_ifY W0 31 (hb hy d35_21) (XT.i0_gt_t hc3) (by decide) rfl ?_
  refine o_lloadN W0 32 (hb hy d35_31) rfl rfl <| o_lconst W0 (v := 0) 33 (hb hy d35_32) (by decide) rfl <| o_lcmp W0 (v := (lcmpW y1 (0 : Int64))) 34 (hb hy d35_33) rfl rfl <| o_ifY W0 53 (hb hy d35_34) (XT.i0_ge_t hc4) (by decide) rfl ?_
  refine o_new W0 (w172 hw) (w173 hw) (w169 hw) tri 56 (hb hy d35_53) rfl (cells' := 1) (slots' := 6) rfl rfl (by decide) (by decide) ?_
  intro b5 T5 h5 W5 E5 ge5 gz5 gb5 A5 D5
  have Fb5_signum : Fld Z h5 b5 s1 "signum" "I" iZ := D5 (Or.inr (w181 hw)) (ty := .int) (by decide)
  have Fb5_mag : Fld Z h5 b5 s1 "mag" "[I" .null := D5 (Or.inr (w184 hw)) (ty := (.array .int)) (by decide)
  have Fb5_bitLengthPlusOne : Fld Z h5 b5 s1 s8 "I" iZ := D5 (Or.inl (w265 hw)) (ty := .int) (by decide)
  refine o_dup W5 57 (hb hy d35_56) rfl rfl <| o_lloadN W5 58 (hb hy d35_57) rfl rfl ?_
  refine o_specialC W5 rfl (w174 hw) (w175 hw) (w177 hw) (by decide) (w169 hw) (rm37 l hw b5 y1 h5 W5.old hc4 A5 Fb5_signum gz5 hc6 Fb5_mag Fb5_bitLengthPlusOne) 1 2 7 (by decide) (by rw [hml]; rfl) (lenOf pd24 rfl) [(.ref b5)] rfl rfl 61 (hb hy d35_58) rfl rfl rfl (allS ⟨gz5, (Or.inr gb5)⟩ all0) tri ?_
  intro v7 T7 h7 lo7 W7 K7 q7
  obtain ⟨r1_7, r2_7, P7_0, P7_1, P7_2, P7_3, P7_4, rfl⟩ := q7.2.2
  show Gl _ _ _ _ _ _ _ _ [(.ref b5)]
  have c8 := (A5.keep K7)
  exact o_retA W7 hlk (v := (.ref b5)) hret rfl rfl (hb hy d35_61) (by decide) (by decide) ⟨b5, r1_7, r2_7, gb5, (Nat.le_trans W5.keep.1 P7_0), c8, P7_1, P7_2, P7_3, P7_4, rfl⟩
theorem rm39 (l : Launch) {Z a0} (hw : HW Z a0) (a1 : Addr) (y1 : Int64) (h0 : Heap) (O0 : Old Z Z.heap.size h0) (z0 : Fld Z h0 a1 s0 "intVal" s5 .null) (z1 : Fld Z h0 a1 s0 s4 "J" (.long y1)) (hc3 : ¬ ((lcmpW y1 (0 : Int64)) = (0 : Int32))) (hc4 : (0 : Int32) < (lcmpW y1 (0 : Int64))) (hc5 : (0 : Int32) < (lcmpW y1 (16 : Int64))) (hc6 : ¬ ((lcmpW y1 (0 : Int64)) < (0 : Int32))) (hc7 : (((y1.toUInt64 >>> ((32 : Int32) &&& 0x3f).toInt64.toUInt64).toInt64).toInt32) = (0 : Int32)) :
    CtrN l Z mn32 jdk_17_method_99_code 1 (some (.object s1)) [] (⟨4, 2, 7, 53⟩ : Room) #[(.ref a1)] h0 [] (fun v h => ∃ r1 : Addr, ∃ r2 : Addr, ∃ r3 : ClassId, h0.size ≤ r1 ∧ h0.size ≤ r2 ∧ Exa Z h r1 s1 ∧ Fld Z h r1 s1 "signum" "I" (.int 1) ∧ Fld Z h r1 s1 "mag" "[I" (.ref r2) ∧ Fld Z h r1 s1 s8 "I" iZ ∧ Arv Z h r2 r3 .int 1 [(.int (y1.toInt32))] iZ ∧ v = some (.ref r1)) := by
  refine CtrN.intro (L0 := #[vr a1]) (plainFor_of_name pn4) O0 (fun _ => rfl) ?_
  intro p e s m below meth c T0 hy hml hret hlk hnm W0
  refine o_aloadN W0 1 (hb hy d34_0) rfl rfl rfl ?_
  refine o_getF W0 (w123 hw) Via.refl z0 4 (hb hy d34_1) rfl ?_
  intro T1 W1
  refine o_ifnonnullN W1 7 (hb hy d34_4) rfl ?_
  refine o_aloadN W1 8 (hb hy d34_7) rfl rfl rfl ?_
  refine o_getF W1 (w85 hw) Via.refl z1 11 (hb hy d34_8) rfl ?_
  intro T2 W2
  refine o_staticC W2 (w167 hw) (w168 hw) (w169 hw) (w170 hw) (by decide) (rm38 l hw y1 h0 W2.old hc3 hc4 hc5 hc6 hc7) 0 2 7 (by decide) (by rw [hml]; rfl) (lenOf pd25 rfl) [] rfl rfl 14 (hb hy d34_11) rfl rfl rfl all0 tri ?_
  intro v8 T8 h8 lo8 W8 K8 q8
  obtain ⟨r1_8, r2_8, r3_8, P8_0, P8_1, P8_2, P8_3, P8_4, P8_5, P8_6, rfl⟩ := q8.2.2
  show Gl _ _ _ _ _ _ _ _ [(.ref r1_8)]
  exact o_retA W8 hlk (v := (.ref r1_8)) hret rfl rfl (hb hy d34_14) (by decide) (by decide) ⟨r1_8, r2_8, r3_8, (Nat.le_trans W2.keep.1 P8_0), (Nat.le_trans W2.keep.1 P8_1), P8_2, P8_3, P8_4, P8_5, P8_6, rfl⟩
theorem rm40 (l : Launch) {Z a0} (hw : HW Z a0) (a1 : Addr) (y1 : Int64) (h0 : Heap) (O0 : Old Z Z.heap.size h0) (z0 : Exa Z h0 a1 s0) (z1 : Fld Z h0 a1 s0 "scale" "I" iZ) (z2 : Fld Z h0 a1 s0 "intVal" s5 .null) (z3 : Fld Z h0 a1 s0 s4 "J" (.long y1)) (hc4 : ¬ ((lcmpW y1 (0 : Int64)) = (0 : Int32))) (hc5 : (0 : Int32) < (lcmpW y1 (0 : Int64))) (hc6 : (0 : Int32) < (lcmpW y1 (16 : Int64))) (hc7 : ¬ ((lcmpW y1 (0 : Int64)) < (0 : Int32))) (hc8 : (((y1.toUInt64 >>> ((32 : Int32) &&& 0x3f).toInt64.toUInt64).toInt64).toInt32) = (0 : Int32)) :
    CtrN l Z mn33 jdk_17_method_81_code 1 (some (.object s1)) [] (⟨5, 2, 7, 65⟩ : Room) #[(.ref a1)] h0 [] (fun v h => ∃ r1 : Addr, ∃ r2 : Addr, ∃ r3 : ClassId, h0.size ≤ r1 ∧ h0.size ≤ r2 ∧ Exa Z h r1 s1 ∧ Fld Z h r1 s1 "signum" "I" (.int 1) ∧ Fld Z h r1 s1 "mag" "[I" (.ref r2) ∧ Fld Z h r1 s1 s8 "I" iZ ∧ Arv Z h r2 r3 .int 1 [(.int (y1.toInt32))] iZ ∧ v = some (.ref r1)) := by
  refine CtrN.intro (L0 := #[vr a1]) (plainFor_of_name pn4) O0 (fun _ => rfl) ?_
  intro p e s m below meth c T0 hy hml hret hlk hnm W0
  refine o_aloadN W0 1 (hb hy d32_0) rfl rfl rfl <| o_iconst W0 (v := 0) 2 (hb hy d32_1) rfl rfl <| o_bipush W0 (v := 7) 4 (hb hy d32_2) (by decide) rfl ?_
  refine o_virtualC W0 (w157 hw) (w158 hw) (o_nf W0 rfl (w160 hw)) (w160 hw) (w159 hw) (by decide) z0 (w161 hw) (w70 hw) (rm36 l hw a1 h0 W0.old z1) 0 0 0 (by decide) (by rw [hml]; rfl) (lenOf pd23 rfl) [] rfl rfl 7 (hb hy d32_4) rfl rfl rfl all0 tri ?_
  intro v1 T1 h1 lo1 W1 K1 q1
  obtain rfl := q1.2.2
  show Gl _ _ _ _ _ _ _ _ [(.ref a1)]
  have c2 := (z2.keep K1 nin0)
  have c3 := (z3.keep K1 nin0)
  have c9 := (z0.keep K1)
  refine o_privateC W1 (w162 hw) (w163 hw) (w165 hw) (w164 hw) (w166 hw) (by decide) c9 (w70 hw) (rm39 l hw a1 y1 h1 W1.old c2 c3 hc4 hc5 hc6 hc7 hc8) 0 2 7 (by decide) (by rw [hml]; rfl) (lenOf pd26 rfl) [] rfl rfl 10 (hb hy d32_7) rfl rfl rfl all0 tri ?_
  intro v10 T10 h10 lo10 W10 K10 q10
  obtain ⟨r1_10, r2_10, r3_10, P10_0, P10_1, P10_2, P10_3, P10_4, P10_5, P10_6, rfl⟩ := q10.2.2
  show Gl _ _ _ _ _ _ _ _ [(.ref r1_10)]
  exact o_retA W10 hlk (v := (.ref r1_10)) hret rfl rfl (hb hy d32_10) (by decide) (by decide) ⟨r1_10, r2_10, r3_10, (Nat.le_trans W1.keep.1 P10_0), (Nat.le_trans W1.keep.1 P10_1), P10_2, P10_3, P10_4, P10_5, P10_6, rfl⟩
theorem rm41 (l : Launch) {Z a0} (hw : HW Z a0) (a1 : Addr) (h0 : Heap) (O0 : Old Z Z.heap.size h0) (z0 : Exa Z h0 a1 s3) (z1 : Fld Z h0 a1 s3 "offset" "I" iZ) (z2 : Z.heap.size ≤ a1) (z3 : Fld Z h0 a1 s3 "value" "[I" .null) (z4 : Fld Z h0 a1 s3 "intLen" "I" iZ) :
    CtrN l Z mn34 jdk_2101_method_1_code 1 none [] (⟨1, 1, 1, 12⟩ : Room) #[(.ref a1)] h0 [a1] (fun v h => ∃ r1 : Addr, ∃ r2 : ClassId, h0.size ≤ r1 ∧ Fld Z h a1 s3 "offset" "I" iZ ∧ Fld Z h a1 s3 "value" "[I" (.ref r1) ∧ Fld Z h a1 s3 "intLen" "I" iZ ∧ Arv Z h r1 r2 .int 1 [iZ] iZ ∧ v = none) := by
  refine CtrN.intro (L0 := #[vr a1]) (plainFor_of_name pn7) O0 (fun _ => rfl) ?_
  intro p e s m below meth c T0 hy hml hret hlk hnm W0
  refine o_aloadN W0 1 (hb hy d39_0) rfl rfl rfl ?_
  refine o_initO W0 (w204 hw) (w7 hw) (w8 hw) (by rw [hml]; rfl) 4 (hb hy d39_1) rfl (by decide) 0 (by exact Nat.le_of_eq rfl) (by decide) ?_
  intro T1 W1
  refine o_aloadN W1 5 (hb hy d39_4) rfl rfl rfl <| o_iconst W1 (v := 0) 6 (hb hy d39_5) rfl rfl ?_
  refine o_putF W1 (w205 hw) Via.refl z1 z0 (Or.inl (w206 hw)) (w198 hw) (ty := .int) (v' := iZ) (by decide) rfl rfl z2 m0 tri 9 (hb hy d39_6) rfl ?_
  intro T2 h2 lo2 W2 R2
  have F2 := z1.same R2
  refine o_aloadN W2 10 (hb hy d39_9) rfl rfl rfl <| o_iconst W2 (v := 1) 11 (hb hy d39_10) rfl rfl ?_
  refine o_newP W2 (aty := .int) (w182 hw) tri (by decide) (cap := 1) (by decide) (by decide) 13 (hb hy d39_11) rfl (cells' := 1) (slots' := 1) rfl rfl (by decide) (by decide) (vs := [iZ]) (dv := iZ) rfl rfl ?_
  intro b3 T3 h3 k3 W3 E3 ge3 gz3 gb3 V3
  have c4 := ((z0.wr R2).ext E3)
  have c5 := ((z3.other R2 (Or.inr (slot_ne (Or.inl (w208 hw)) (Or.inl (w206 hw)) (by decide) (t := (.array .int)) (t' := .int) (by decide) (by decide)))).ext E3)
  refine o_putF W3 (w207 hw) Via.refl c5 c4 (Or.inl (w208 hw)) (w198 hw) (ty := (.array .int)) (v' := (.ref b3)) (by decide) rfl rfl z2 m0 tri 16 (hb hy d39_13) rfl ?_
  intro T6 h6 lo6 W6 R6
  have F6 := c5.same R6
  refine o_aloadN W6 17 (hb hy d39_16) rfl rfl rfl <| o_iconst W6 (v := 0) 18 (hb hy d39_17) rfl rfl ?_
  have c7 := (c4.wr R6)
  have c8 := (((z4.other R2 (Or.inr (slot_ne (Or.inl (w210 hw)) (Or.inl (w206 hw)) (by decide) (t := .int) (t' := .int) (by decide) (by decide)))).ext E3).other R6 (Or.inr (slot_ne (Or.inl (w210 hw)) (Or.inl (w208 hw)) (by decide) (t := .int) (t' := (.array .int)) (by decide) (by decide))))
  refine o_putF W6 (w209 hw) Via.refl c8 c7 (Or.inl (w210 hw)) (w198 hw) (ty := .int) (v' := iZ) (by decide) rfl rfl z2 m0 tri 21 (hb hy d39_18) rfl ?_
  intro T9 h9 lo9 W9 R9
  have F9 := c8.same R9
  have c10 := (((F2.ext E3).other R6 (Or.inr (slot_ne (Or.inl (w206 hw)) (Or.inl (w208 hw)) (by decide) (t := .int) (t' := (.array .int)) (by decide) (by decide)))).other R9 (Or.inr (slot_ne (Or.inl (w206 hw)) (Or.inl (w210 hw)) (by decide) (t := .int) (t' := .int) (by decide) (by decide))))
  have c11 := (F6.other R9 (Or.inr (slot_ne (Or.inl (w208 hw)) (Or.inl (w210 hw)) (by decide) (t := (.array .int)) (t' := .int) (by decide) (by decide))))
  have c12 := (c7.wr R9)
  have c13 := (z0.wr R2)
  have c14 := ((V3.other R6 (own_ne' c13.lt ge3)).other R9 (own_ne' c13.lt ge3))
  exact o_ret0 W9 hlk hret (hb hy d39_21) (by decide) (by decide) ⟨b3, k3, gb3, c10, c11, F9, c14, rfl⟩
theorem rm42 (l : Launch) {Z a0} (hw : HW Z a0) (a1 a2 : Addr) (z0 : ClassId) (x1 : Int32) (h0 : Heap) (O0 : Old Z Z.heap.size h0) (z1 : Exa Z h0 a1 s3) (z2 : Fld Z h0 a1 s3 "offset" "I" iZ) (z3 : Z.heap.size ≤ a1) (z4 : Fld Z h0 a1 s3 "value" "[I" .null) (z5 : Arv Z h0 a2 z0 .int 1 [(.int x1)] iZ) (z6 : Fld Z h0 a1 s3 "intLen" "I" iZ) :
    CtrN l Z mn35 jdk_2101_method_3_code 2 none [] (⟨1, 0, 0, 12⟩ : Room) #[(.ref a1), (.ref a2)] h0 [a1] (fun v h => Fld Z h a1 s3 "offset" "I" iZ ∧ Fld Z h a1 s3 "value" "[I" (.ref a2) ∧ Fld Z h a1 s3 "intLen" "I" (.int 1) ∧ v = none) := by
  refine CtrN.intro (L0 := #[vr a1, vr a2]) (plainFor_of_name pn7) O0 (fun _ => rfl) ?_
  intro p e s m below meth c T0 hy hml hret hlk hnm W0
  refine o_aloadN W0 1 (hb hy d40_0) rfl rfl rfl ?_
  refine o_initO W0 (w204 hw) (w7 hw) (w8 hw) (by rw [hml]; rfl) 4 (hb hy d40_1) rfl (by decide) 0 (by exact Nat.le_of_eq rfl) (by decide) ?_
  intro T1 W1
  refine o_aloadN W1 5 (hb hy d40_4) rfl rfl rfl <| o_iconst W1 (v := 0) 6 (hb hy d40_5) rfl rfl ?_
  refine o_putF W1 (w205 hw) Via.refl z2 z1 (Or.inl (w206 hw)) (w198 hw) (ty := .int) (v' := iZ) (by decide) rfl rfl z3 m0 tri 9 (hb hy d40_6) rfl ?_
  intro T2 h2 lo2 W2 R2
  have F2 := z2.same R2
  refine o_aloadN W2 10 (hb hy d40_9) rfl rfl rfl <| o_aloadN W2 11 (hb hy d40_10) rfl rfl rfl ?_
  have c3 := (z1.wr R2)
  have c4 := (z4.other R2 (Or.inr (slot_ne (Or.inl (w208 hw)) (Or.inl (w206 hw)) (by decide) (t := (.array .int)) (t' := .int) (by decide) (by decide))))
  refine o_putF W2 (w207 hw) Via.refl c4 c3 (Or.inl (w208 hw)) (w198 hw) (ty := (.array .int)) (v' := (.ref a2)) (by decide) rfl rfl z3 m0 tri 14 (hb hy d40_11) rfl ?_
  intro T5 h5 lo5 W5 R5
  have F5 := c4.same R5
  refine o_aloadN W5 15 (hb hy d40_14) rfl rfl rfl <| o_aloadN W5 16 (hb hy d40_15) rfl rfl rfl ?_
  have c6 := (c3.wr R5)
  have c7 := (z5.other R2 (Ne.symm (Exa.neArv z1 z5 (w198 hw))))
  have c8 := ((z5.other R2 (Ne.symm (Exa.neArv z1 z5 (w198 hw)))).other R5 (Ne.symm (Exa.neArv c3 c7 (w198 hw))))
  refine o_len W5 c8 17 (hb hy d40_16) rfl ?_
  have c9 := ((z6.other R2 (Or.inr (slot_ne (Or.inl (w210 hw)) (Or.inl (w206 hw)) (by decide) (t := .int) (t' := .int) (by decide) (by decide)))).other R5 (Or.inr (slot_ne (Or.inl (w210 hw)) (Or.inl (w208 hw)) (by decide) (t := .int) (t' := (.array .int)) (by decide) (by decide))))
  refine o_putF W5 (w209 hw) Via.refl c9 c6 (Or.inl (w210 hw)) (w198 hw) (ty := .int) (v' := (.int 1)) (by decide) rfl rfl z3 m0 tri 20 (hb hy d40_17) rfl ?_
  intro T10 h10 lo10 W10 R10
  have F10 := c9.same R10
  have c11 := ((F2.other R5 (Or.inr (slot_ne (Or.inl (w206 hw)) (Or.inl (w208 hw)) (by decide) (t := .int) (t' := (.array .int)) (by decide) (by decide)))).other R10 (Or.inr (slot_ne (Or.inl (w206 hw)) (Or.inl (w210 hw)) (by decide) (t := .int) (t' := .int) (by decide) (by decide))))
  have c12 := (F5.other R10 (Or.inr (slot_ne (Or.inl (w208 hw)) (Or.inl (w210 hw)) (by decide) (t := (.array .int)) (t' := .int) (by decide) (by decide))))
  have c13 := (c6.wr R10)
  exact o_ret0 W10 hlk hret (hb hy d40_20) (by decide) (by decide) ⟨c11, c12, F10, rfl⟩
theorem rm43 (l : Launch) {Z a0} (hw : HW Z a0) (gO89 : Addr) (z0 : ClassId) (a1 : Addr) (h0 : Heap) (O0 : Old Z Z.heap.size h0) (z1 : Exa Z h0 a1 s3) (z2 : Fld Z h0 a1 s3 "offset" "I" iZ) (z3 : Z.heap.size ≤ a1) (z4 : Fld Z h0 a1 s3 "value" "[I" .null) (VgO89 : Arv Z Z.heap gO89 z0 .int (1 : Int32) [(.int 1000000000)] iZ) (z5 : Fld Z h0 a1 s3 "intLen" "I" iZ) :
    CtrN l Z mn35 jdk_2101_method_3_code 2 none [] (⟨1, 0, 0, 12⟩ : Room) #[(.ref a1), (.ref gO89)] h0 [a1] (fun v h => Fld Z h a1 s3 "offset" "I" iZ ∧ Fld Z h a1 s3 "value" "[I" (.ref gO89) ∧ Fld Z h a1 s3 "intLen" "I" (.int 1) ∧ v = none) := by
  refine CtrN.intro (L0 := #[vr a1, vr gO89]) (plainFor_of_name pn7) O0 (fun _ => rfl) ?_
  intro p e s m below meth c T0 hy hml hret hlk hnm W0
  refine o_aloadN W0 1 (hb hy d40_0) rfl rfl rfl ?_
  refine o_initO W0 (w204 hw) (w7 hw) (w8 hw) (by rw [hml]; rfl) 4 (hb hy d40_1) rfl (by decide) 0 (by exact Nat.le_of_eq rfl) (by decide) ?_
  intro T1 W1
  refine o_aloadN W1 5 (hb hy d40_4) rfl rfl rfl <| o_iconst W1 (v := 0) 6 (hb hy d40_5) rfl rfl ?_
  refine o_putF W1 (w205 hw) Via.refl z2 z1 (Or.inl (w206 hw)) (w198 hw) (ty := .int) (v' := iZ) (by decide) rfl rfl z3 m0 tri 9 (hb hy d40_6) rfl ?_
  intro T2 h2 lo2 W2 R2
  have F2 := z2.same R2
  refine o_aloadN W2 10 (hb hy d40_9) rfl rfl rfl <| o_aloadN W2 11 (hb hy d40_10) rfl rfl rfl ?_
  have c3 := (z1.wr R2)
  have c4 := (z4.other R2 (Or.inr (slot_ne (Or.inl (w208 hw)) (Or.inl (w206 hw)) (by decide) (t := (.array .int)) (t' := .int) (by decide) (by decide))))
  refine o_putF W2 (w207 hw) Via.refl c4 c3 (Or.inl (w208 hw)) (w198 hw) (ty := (.array .int)) (v' := (.ref gO89)) (by decide) rfl rfl z3 m0 tri 14 (hb hy d40_11) rfl ?_
  intro T5 h5 lo5 W5 R5
  have F5 := c4.same R5
  refine o_aloadN W5 15 (hb hy d40_14) rfl rfl rfl <| o_aloadN W5 16 (hb hy d40_15) rfl rfl rfl <| o_len W5 (VgO89.ext W5.ox) 17 (hb hy d40_16) rfl ?_
  have c6 := (c3.wr R5)
  have c7 := ((z5.other R2 (Or.inr (slot_ne (Or.inl (w210 hw)) (Or.inl (w206 hw)) (by decide) (t := .int) (t' := .int) (by decide) (by decide)))).other R5 (Or.inr (slot_ne (Or.inl (w210 hw)) (Or.inl (w208 hw)) (by decide) (t := .int) (t' := (.array .int)) (by decide) (by decide))))
  refine o_putF W5 (w209 hw) Via.refl c7 c6 (Or.inl (w210 hw)) (w198 hw) (ty := .int) (v' := (.int 1)) (by decide) rfl rfl z3 m0 tri 20 (hb hy d40_17) rfl ?_
  intro T8 h8 lo8 W8 R8
  have F8 := c7.same R8
  have c9 := ((F2.other R5 (Or.inr (slot_ne (Or.inl (w206 hw)) (Or.inl (w208 hw)) (by decide) (t := .int) (t' := (.array .int)) (by decide) (by decide)))).other R8 (Or.inr (slot_ne (Or.inl (w206 hw)) (Or.inl (w210 hw)) (by decide) (t := .int) (t' := .int) (by decide) (by decide))))
  have c10 := (F5.other R8 (Or.inr (slot_ne (Or.inl (w208 hw)) (Or.inl (w210 hw)) (by decide) (t := (.array .int)) (t' := .int) (by decide) (by decide))))
  have c11 := (c6.wr R8)
  exact o_ret0 W8 hlk hret (hb hy d40_20) (by decide) (by decide) ⟨c9, c10, F8, rfl⟩
theorem rm44 (l : Launch) {Z a0} (hw : HW Z a0) (gO89 : Addr) (z0 : ClassId) (a1 a2 a3 : Addr) (z1 : ClassId) (x1 : Int32) (h0 : Heap) (O0 : Old Z Z.heap.size h0) (z2 : Fld Z h0 a2 s3 "intLen" "I" (.int 1)) (z3 : Fld Z h0 a1 s3 "intLen" "I" (.int 1)) (z4 : Fld Z h0 a2 s3 "value" "[I" (.ref gO89)) (z5 : Fld Z h0 a1 s3 "offset" "I" iZ) (z6 : Fld Z h0 a2 s3 "offset" "I" iZ) (z7 : Fld Z h0 a1 s3 "value" "[I" (.ref a3)) (z8 : Arv Z h0 a3 z1 .int 1 [(.int x1)] iZ) (VgO89 : Arv Z Z.heap gO89 z0 .int (1 : Int32) [(.int 1000000000)] iZ) (hc10 : ¬ ((x1 + (-2147483648 : Int32)) < (-1147483648 : Int32))) (hc11 : (-1147483648 : Int32) < (x1 + (-2147483648 : Int32))) :
    CtrN l Z mn36 jdk_2101_method_15_code 8 (some .int) [] (⟨0, 0, 0, 0⟩ : Room) #[(.ref a1), (.ref a2)] h0 [] (fun v h => v = some (.int 1)) := by
  refine CtrN.intro (L0 := #[vr a1, vr a2, un, un, un, un, un, un]) (plainFor_of_name pn7) O0 (fun _ => rfl) ?_
  intro p e s m below meth c T0 hy hml hret hlk hnm W0
  refine o_aloadN W0 1 (hb hy d43_0) rfl rfl rfl ?_
  refine o_getF W0 (w209 hw) Via.refl z2 4 (hb hy d43_1) rfl ?_
  intro T1 W1
  refine o_istoreN W1 (L' := #[vr a1, vr a2, vi 1, un, un, un, un, un]) 5 (hb hy d43_4) rfl rfl <| o_aloadN W1 6 (hb hy d43_5) rfl rfl rfl ?_
  refine o_getF W1 (w209 hw) Via.refl z3 9 (hb hy d43_6) rfl ?_
  intro T2 W2
  refine o_iloadN W2 10 (hb hy d43_9) rfl rfl <| o_icmpY W2 15 (hb hy d43_10) (XT.ii_ge_t (by decide)) (by decide) rfl <| o_aloadN W2 16 (hb hy d43_15) rfl rfl rfl ?_
  refine o_getF W2 (w209 hw) Via.refl z3 19 (hb hy d43_16) rfl ?_
  intro T3 W3
  refine o_iloadN W3 20 (hb hy d43_19) rfl rfl <| o_icmpY W3 25 (hb hy d43_20) (XT.ii_le_t (by decide)) (by decide) rfl <| o_aloadN W3 26 (hb hy d43_25) rfl rfl rfl ?_
  refine o_getF W3 (w207 hw) Via.refl z4 29 (hb hy d43_26) rfl ?_
  intro T4 W4
  refine o_astoreN W4 (L' := #[vr a1, vr a2, vi 1, vr gO89, un, un, un, un]) 30 (hb hy d43_29) rfl rfl rfl <| o_aloadN W4 31 (hb hy d43_30) rfl rfl rfl ?_
  refine o_getF W4 (w205 hw) Via.refl z5 34 (hb hy d43_31) rfl ?_
  intro T5 W5
  refine o_istore W5 (L' := #[vr a1, vr a2, vi 1, vr gO89, vi 0, un, un, un]) 36 (hb hy d43_34) rfl rfl <| o_aloadN W5 37 (hb hy d43_36) rfl rfl rfl ?_
  refine o_getF W5 (w205 hw) Via.refl z6 40 (hb hy d43_37) rfl ?_
  intro T6 W6
  refine o_istore W6 (L' := #[vr a1, vr a2, vi 1, vr gO89, vi 0, vi 0, un, un]) 42 (hb hy d43_40) rfl rfl <| o_iload W6 44 (hb hy d43_42) rfl rfl <| o_aloadN W6 45 (hb hy d43_44) rfl rfl rfl ?_
  refine o_getF W6 (w209 hw) Via.refl z3 48 (hb hy d43_45) rfl ?_
  intro T7 W7
  refine o_aloadN W7 49 (hb hy d43_48) rfl rfl rfl ?_
  refine o_getF W7 (w205 hw) Via.refl z5 52 (hb hy d43_49) rfl ?_
  intro T8 W8
  refine o_iadd W8 (v := 1) 53 (hb hy d43_52) (by decide) rfl <| o_icmpN W8 56 (hb hy d43_53) (XT.ii_ge_f (by decide)) rfl <| o_aloadN W8 57 (hb hy d43_56) rfl rfl rfl ?_
  refine o_getF W8 (w207 hw) Via.refl z7 60 (hb hy d43_57) rfl ?_
  intro T9 W9
  refine o_iload W9 62 (hb hy d43_60) rfl rfl <| o_iaload W9 z8 (x := x1) (i := 0) (by decide) (by decide) (by decide) rfl 63 (hb hy d43_62) rfl <| o_ldcI W9 (w229 hw) 65 (hb hy d43_63) rfl <| o_iadd W9 (v := (x1 + (-2147483648 : Int32))) 66 (hb hy d43_65) rfl rfl <| o_istore W9 (L' := #[vr a1, vr a2, vi 1, vr gO89, vi 0, vi 0, vi (x1 + (-2147483648 : Int32)), un]) 68 (hb hy d43_66) rfl rfl <| o_aloadN W9 69 (hb hy d43_68) rfl rfl rfl ?_
  refine o_iload W9 71 (hb hy d43_69) rfl rfl <| o_iaload W9 (VgO89.ext W9.ox) (x := (1000000000 : Int32)) (i := 0) (by decide) (by decide) (by decide) rfl 72 (hb hy d43_71) rfl <| o_ldcI W9 (w229 hw) 74 (hb hy d43_72) rfl <| o_iadd W9 (v := (-1147483648 : Int32)) 75 (hb hy d43_74) (by decide) rfl <| o_istore W9 (L' := #[vr a1, vr a2, vi 1, vr gO89, vi 0, vi 0, vi (x1 + (-2147483648 : Int32)), vi (-1147483648 : Int32)]) 77 (hb hy d43_75) rfl rfl <| o_iload W9 79 (hb hy d43_77) rfl rfl ?_
  refine o_iload W9 81 (hb hy d43_79) rfl rfl <| o_icmpY W9 86 (hb hy d43_81) (XT.ii_ge_t hc10) (by decide) rfl <| o_iload W9 88 (hb hy d43_86) rfl rfl <| o_iload W9 90 (hb hy d43_88) rfl rfl <| o_icmpN W9 93 (hb hy d43_90) (XT.ii_le_f hc11) rfl <| o_iconst W9 (v := 1) 94 (hb hy d43_93) rfl rfl ?_
  exact o_retI W9 hlk hret (hb hy d43_94) (by decide) (by decide) rfl
theorem rm45 (l : Launch) {Z a0} (hw : HW Z a0) (a1 a2 : Addr) (z0 : ClassId) (h0 : Heap) (O0 : Old Z Z.heap.size h0) (z1 : Exa Z h0 a1 s3) (z2 : Fld Z h0 a1 s3 "intLen" "I" iZ) (z3 : Z.heap.size ≤ a1) (z4 : Fld Z h0 a1 s3 "offset" "I" iZ) (z5 : Fld Z h0 a1 s3 "value" "[I" (.ref a2)) (z6 : Arv Z h0 a2 z0 .int 1 [iZ] iZ) (z7 : Z.heap.size ≤ a2) :
    CtrN l Z mn37 jdk_2101_method_13_code 3 none [] (⟨0, 0, 0, 0⟩ : Room) #[(.ref a1)] h0 [a1, a2] (fun v h => Fld Z h a1 s3 "intLen" "I" iZ ∧ Fld Z h a1 s3 "offset" "I" iZ ∧ Fld Z h a1 s3 "value" "[I" (.ref a2) ∧ Arv Z h a2 z0 .int 1 [iZ] iZ ∧ v = none) := by
  refine CtrN.intro (L0 := #[vr a1, un, un]) (plainFor_of_name pn7) O0 (fun _ => rfl) ?_
  intro p e s m below meth c T0 hy hml hret hlk hnm W0
  refine o_aloadN W0 1 (hb hy d44_0) rfl rfl rfl <| o_aloadN W0 2 (hb hy d44_1) rfl rfl rfl <| o_iconst W0 (v := 0) 3 (hb hy d44_2) rfl rfl <| o_dupX1 W0 4 (hb hy d44_3) rfl rfl rfl ?_
  refine o_putF W0 (w209 hw) Via.refl z2 z1 (Or.inl (w210 hw)) (w198 hw) (ty := .int) (v' := iZ) (by decide) rfl rfl z3 m0 tri 7 (hb hy d44_4) rfl ?_
  intro T1 h1 lo1 W1 R1
  have F1 := z2.same R1
  have c2 := (z1.wr R1)
  have c3 := (z4.other R1 (Or.inr (slot_ne (Or.inl (w206 hw)) (Or.inl (w210 hw)) (by decide) (t := .int) (t' := .int) (by decide) (by decide))))
  refine o_putF W1 (w205 hw) Via.refl c3 c2 (Or.inl (w206 hw)) (w198 hw) (ty := .int) (v' := iZ) (by decide) rfl rfl z3 m0 tri 10 (hb hy d44_7) rfl ?_
  intro T4 h4 lo4 W4 R4
  have F4 := c3.same R4
  refine o_iconst W4 (v := 0) 11 (hb hy d44_10) rfl rfl <| o_istoreN W4 (L' := #[vr a1, vi 0, un]) 12 (hb hy d44_11) rfl rfl <| o_aloadN W4 13 (hb hy d44_12) rfl rfl rfl ?_
  have c5 := ((z5.other R1 (Or.inr (slot_ne (Or.inl (w208 hw)) (Or.inl (w210 hw)) (by decide) (t := (.array .int)) (t' := .int) (by decide) (by decide)))).other R4 (Or.inr (slot_ne (Or.inl (w208 hw)) (Or.inl (w206 hw)) (by decide) (t := (.array .int)) (t' := .int) (by decide) (by decide))))
  refine o_getF W4 (w207 hw) Via.refl c5 16 (hb hy d44_13) rfl ?_
  intro T6 W6
  have c7 := (c2.wr R4)
  have c8 := (z6.other R1 (Ne.symm (Exa.neArv z1 z6 (w198 hw))))
  have c9 := ((z6.other R1 (Ne.symm (Exa.neArv z1 z6 (w198 hw)))).other R4 (Ne.symm (Exa.neArv c2 c8 (w198 hw))))
  refine o_len W6 c9 17 (hb hy d44_16) rfl <| o_istoreN W6 (L' := #[vr a1, vi 0, vi 1]) 18 (hb hy d44_17) rfl rfl <| o_iloadN W6 19 (hb hy d44_18) rfl rfl <| o_iloadN W6 20 (hb hy d44_19) rfl rfl <| o_icmpN W6 23 (hb hy d44_20) (XT.ii_ge_f (by decide)) rfl <| o_aloadN W6 24 (hb hy d44_23) rfl rfl rfl ?_
  refine o_getF W6 (w207 hw) Via.refl c5 27 (hb hy d44_24) rfl ?_
  intro T10 W10
  refine o_iloadN W10 28 (hb hy d44_27) rfl rfl <| o_iconst W10 (v := 0) 29 (hb hy d44_28) rfl rfl ?_
  refine o_stI W10 c9 (i := 0) (by decide) (by decide) (by decide) (Nat.lt_of_sub_eq_succ rfl) (vs' := [iZ]) rfl z7 (Or.inl (List.mem_of_getElem? (i := 1) rfl)) tri 30 (hb hy d44_29) rfl ?_
  intro T11 h11 lo11 W11 R11 V11
  refine o_iinc W11 (v := 1) (L' := #[vr a1, vi 1, vi 1]) 33 (hb hy d44_30) rfl (by decide) rfl rfl <| o_goto W11 18 (hb hy d44_33) (by decide) rfl <| o_iloadN W11 19 (hb hy d44_18) rfl rfl <| o_iloadN W11 20 (hb hy d44_19) rfl rfl <| o_icmpY W11 36 (hb hy d44_20) (XT.ii_ge_t (by decide)) (by decide) rfl ?_
  have c12 := (c7.wr R11)
  have c13 := ((F1.other R4 (Or.inr (slot_ne (Or.inl (w210 hw)) (Or.inl (w206 hw)) (by decide) (t := .int) (t' := .int) (by decide) (by decide)))).other R11 (Or.inl (Exa.neArv c7 c9 (w198 hw))))
  have c14 := (F4.other R11 (Or.inl (Exa.neArv c7 c9 (w198 hw))))
  have c15 := (c5.other R11 (Or.inl (Exa.neArv c7 c9 (w198 hw))))
  exact o_ret0 W11 hlk hret (hb hy d44_36) (by decide) (by decide) ⟨c13, c14, c15, V11, rfl⟩
theorem rm46 (l : Launch) {Z a0} (hw : HW Z a0) (a1 : Addr) (x1 : Int32) (a2 a3 : Addr) (z0 : ClassId) (x2 : Int32) (a4 : Addr) (z1 : ClassId) (h0 : Heap) (O0 : Old Z Z.heap.size h0) (z2 : Fld Z h0 a1 s3 "intLen" "I" (.int 1)) (z3 : Fld Z h0 a1 s3 "value" "[I" (.ref a3)) (z4 : Fld Z h0 a1 s3 "offset" "I" iZ) (z5 : Arv Z h0 a3 z0 .int 1 [(.int x2)] iZ) (hc4 : ¬ (((x1.toInt64) &&& (4294967295 : Int64)) = (0 : Int64))) (z6 : Fld Z h0 a2 s3 "value" "[I" (.ref a4)) (z7 : Arv Z h0 a4 z1 .int 1 [iZ] iZ) (z8 : Z.heap.size ≤ a4) (hc7 : ¬ (((((x2.toInt64) &&& (4294967295 : Int64)) / ((x1.toInt64) &&& (4294967295 : Int64))).toInt32) = (0 : Int32))) (z9 : Exa Z h0 a2 s3) (z10 : Fld Z h0 a2 s3 "intLen" "I" iZ) (z11 : Z.heap.size ≤ a2) (z12 : Fld Z h0 a2 s3 "offset" "I" iZ) :
    CtrN l Z mn38 jdk_2101_method_53_code 15 (some .int) [] (⟨0, 0, 0, 0⟩ : Room) #[(.ref a1), (.int x1), (.ref a2)] h0 [a4, a2] (fun v h => Fld Z h a2 s3 "value" "[I" (.ref a4) ∧ Arv Z h a4 z1 .int 1 [(.int ((((x2.toInt64) &&& (4294967295 : Int64)) / ((x1.toInt64) &&& (4294967295 : Int64))).toInt32))] iZ ∧ Fld Z h a2 s3 "intLen" "I" (.int 1) ∧ Fld Z h a2 s3 "offset" "I" iZ ∧ v = some (.int ((((x2.toInt64) &&& (4294967295 : Int64)) - ((((((x2.toInt64) &&& (4294967295 : Int64)) / ((x1.toInt64) &&& (4294967295 : Int64))).toInt32).toInt64) * ((x1.toInt64) &&& (4294967295 : Int64)))).toInt32))) := by
  refine CtrN.intro (L0 := #[vr a1, vi x1, vr a2, un, un, un, un, un, un, un, un, un, un, un, un]) (plainFor_of_name pn7) O0 (fun _ => rfl) ?_
  intro p e s m below meth c T0 hy hml hret hlk hnm W0
  refine o_iloadN W0 1 (hb hy d45_0) rfl rfl <| o_i2l W0 (v := (x1.toInt64)) 2 (hb hy d45_1) rfl rfl <| o_ldcJ W0 (w240 hw) 5 (hb hy d45_2) rfl <| o_land W0 (v := ((x1.toInt64) &&& (4294967295 : Int64))) 6 (hb hy d45_5) rfl rfl <| o_lstoreN W0 (L' := #[vr a1, vi x1, vr a2, .val (.long ((x1.toInt64) &&& (4294967295 : Int64))), .second, un, un, un, un, un, un, un, un, un, un]) 7 (hb hy d45_6) rfl rfl <| o_aloadN W0 8 (hb hy d45_7) rfl rfl rfl ?_
  refine o_getF W0 (w209 hw) Via.refl z2 11 (hb hy d45_8) rfl ?_
  intro T1 W1
  refine o_iconst W1 (v := 1) 12 (hb hy d45_11) rfl rfl <| o_icmpN W1 15 (hb hy d45_12) (XT.ii_ne_f (by decide)) rfl <| o_aloadN W1 16 (hb hy d45_15) rfl rfl rfl ?_
  refine o_getF W1 (w207 hw) Via.refl z3 19 (hb hy d45_16) rfl ?_
  intro T2 W2
  refine o_aloadN W2 20 (hb hy d45_19) rfl rfl rfl ?_
  refine o_getF W2 (w205 hw) Via.refl z4 23 (hb hy d45_20) rfl ?_
  intro T3 W3
  refine o_iaload W3 z5 (x := x2) (i := 0) (by decide) (by decide) (by decide) rfl 24 (hb hy d45_23) rfl <| o_i2l W3 (v := (x2.toInt64)) 25 (hb hy d45_24) rfl rfl <| o_ldcJ W3 (w240 hw) 28 (hb hy d45_25) rfl <| o_land W3 (v := ((x2.toInt64) &&& (4294967295 : Int64))) 29 (hb hy d45_28) rfl rfl <| o_lstore W3 (L' := #[vr a1, vi x1, vr a2, .val (.long ((x1.toInt64) &&& (4294967295 : Int64))), .second, .val (.long ((x2.toInt64) &&& (4294967295 : Int64))), .second, un, un, un, un, un, un, un, un]) 31 (hb hy d45_29) rfl rfl <| o_lload W3 33 (hb hy d45_31) rfl rfl ?_
  refine o_lloadN W3 34 (hb hy d45_33) rfl rfl ?_
  refine o_ldiv W3 (v := (((x2.toInt64) &&& (4294967295 : Int64)) / ((x1.toInt64) &&& (4294967295 : Int64)))) 35 (hb hy d45_34) hc4 rfl rfl ?_
  refine o_l2i W3 (v := ((((x2.toInt64) &&& (4294967295 : Int64)) / ((x1.toInt64) &&& (4294967295 : Int64))).toInt32)) 36 (hb hy d45_35) rfl rfl <| o_istore W3 (L' := #[vr a1, vi x1, vr a2, .val (.long ((x1.toInt64) &&& (4294967295 : Int64))), .second, .val (.long ((x2.toInt64) &&& (4294967295 : Int64))), .second, .val (.int ((((x2.toInt64) &&& (4294967295 : Int64)) / ((x1.toInt64) &&& (4294967295 : Int64))).toInt32)), un, un, un, un, un, un, un]) 38 (hb hy d45_36) rfl rfl <| o_lload W3 40 (hb hy d45_38) rfl rfl <| o_iload W3 42 (hb hy d45_40) rfl rfl <| o_i2l W3 (v := (((((x2.toInt64) &&& (4294967295 : Int64)) / ((x1.toInt64) &&& (4294967295 : Int64))).toInt32).toInt64)) 43 (hb hy d45_42) rfl rfl <| o_lloadN W3 44 (hb hy d45_43) rfl rfl ?_
  refine o_lmul W3 (v := ((((((x2.toInt64) &&& (4294967295 : Int64)) / ((x1.toInt64) &&& (4294967295 : Int64))).toInt32).toInt64) * ((x1.toInt64) &&& (4294967295 : Int64)))) 45 (hb hy d45_44) rfl rfl <| o_lsub W3 (v := (((x2.toInt64) &&& (4294967295 : Int64)) - ((((((x2.toInt64) &&& (4294967295 : Int64)) / ((x1.toInt64) &&& (4294967295 : Int64))).toInt32).toInt64) * ((x1.toInt64) &&& (4294967295 : Int64))))) 46 (hb hy d45_45) rfl rfl <| o_l2i W3 (v := ((((x2.toInt64) &&& (4294967295 : Int64)) - ((((((x2.toInt64) &&& (4294967295 : Int64)) / ((x1.toInt64) &&& (4294967295 : Int64))).toInt32).toInt64) * ((x1.toInt64) &&& (4294967295 : Int64)))).toInt32)) 47 (hb hy d45_46) rfl rfl <| o_istore W3 (L' := #[vr a1, vi x1, vr a2, .val (.long ((x1.toInt64) &&& (4294967295 : Int64))), .second, .val (.long ((x2.toInt64) &&& (4294967295 : Int64))), .second, .val (.int ((((x2.toInt64) &&& (4294967295 : Int64)) / ((x1.toInt64) &&& (4294967295 : Int64))).toInt32)), .val (.int ((((x2.toInt64) &&& (4294967295 : Int64)) - ((((((x2.toInt64) &&& (4294967295 : Int64)) / ((x1.toInt64) &&& (4294967295 : Int64))).toInt32).toInt64) * ((x1.toInt64) &&& (4294967295 : Int64)))).toInt32)), un, un, un, un, un, un]) 49 (hb hy d45_47) rfl rfl <| o_aloadN W3 50 (hb hy d45_49) rfl rfl rfl ?_
  refine o_getF W3 (w207 hw) Via.refl z6 53 (hb hy d45_50) rfl ?_
  intro T5 W5
  refine o_iconst W5 (v := 0) 54 (hb hy d45_53) rfl rfl <| o_iload W5 56 (hb hy d45_54) rfl rfl ?_
  refine o_stI W5 z7 (i := 0) (by decide) (by decide) (by decide) (Nat.lt_of_sub_eq_succ rfl) (vs' := [(.int ((((x2.toInt64) &&& (4294967295 : Int64)) / ((x1.toInt64) &&& (4294967295 : Int64))).toInt32))]) rfl z8 m0 tri 57 (hb hy d45_56) rfl ?_
  intro T6 h6 lo6 W6 R6 V6
  refine o_aloadN W6 58 (hb hy d45_57) rfl rfl rfl <| o_iload W6 60 (hb hy d45_58) rfl rfl <| o_ifY W6 67 (hb hy d45_60) (XT.i0_ne_t hc7) (by decide) rfl <| o_iconst W6 (v := 1) 68 (hb hy d45_67) rfl rfl ?_
  have c8 := (z9.wr R6)
  have c9 := (z10.other R6 (Or.inl (Exa.neArv z9 z7 (w198 hw))))
  refine o_putF W6 (w209 hw) Via.refl c9 c8 (Or.inl (w210 hw)) (w198 hw) (ty := .int) (v' := (.int 1)) (by decide) rfl rfl z11 (Or.inl (List.mem_of_getElem? (i := 1) rfl)) tri 71 (hb hy d45_68) rfl ?_
  intro T10 h10 lo10 W10 R10
  have F10 := c9.same R10
  refine o_aloadN W10 72 (hb hy d45_71) rfl rfl rfl <| o_iconst W10 (v := 0) 73 (hb hy d45_72) rfl rfl ?_
  have c11 := (c8.wr R10)
  have c12 := ((z12.other R6 (Or.inl (Exa.neArv z9 z7 (w198 hw)))).other R10 (Or.inr (slot_ne (Or.inl (w206 hw)) (Or.inl (w210 hw)) (by decide) (t := .int) (t' := .int) (by decide) (by decide))))
  refine o_putF W10 (w205 hw) Via.refl c12 c11 (Or.inl (w206 hw)) (w198 hw) (ty := .int) (v' := iZ) (by decide) rfl rfl z11 (Or.inl (List.mem_of_getElem? (i := 1) rfl)) tri 76 (hb hy d45_73) rfl ?_
  intro T13 h13 lo13 W13 R13
  have F13 := c12.same R13
  refine o_iload W13 78 (hb hy d45_76) rfl rfl ?_
  have c14 := (F10.other R13 (Or.inr (slot_ne (Or.inl (w210 hw)) (Or.inl (w206 hw)) (by decide) (t := .int) (t' := .int) (by decide) (by decide))))
  have c15 := (c11.wr R13)
  have c16 := (((z6.other R6 (Or.inl (Exa.neArv z9 z7 (w198 hw)))).other R10 (Or.inr (slot_ne (Or.inl (w208 hw)) (Or.inl (w210 hw)) (by decide) (t := (.array .int)) (t' := .int) (by decide) (by decide)))).other R13 (Or.inr (slot_ne (Or.inl (w208 hw)) (Or.inl (w206 hw)) (by decide) (t := (.array .int)) (t' := .int) (by decide) (by decide))))
  have c17 := (V6.other R10 (Ne.symm (Exa.neArv c8 V6 (w198 hw))))
  have c18 := ((V6.other R10 (Ne.symm (Exa.neArv c8 V6 (w198 hw)))).other R13 (Ne.symm (Exa.neArv c11 c17 (w198 hw))))
  exact o_retI W13 hlk hret (hb hy d45_78) (by decide) (by decide) ⟨c16, c18, c14, F13, rfl⟩
theorem rm47 (l : Launch) {Z a0} (hw : HW Z a0) (gO89 : Addr) (z0 : ClassId) (a1 a2 a3 a4 : Addr) (z1 : ClassId) (x1 : Int32) (a5 : Addr) (z2 : ClassId) (h0 : Heap) (O0 : Old Z Z.heap.size h0) (z3 : Fld Z h0 a2 s3 "intLen" "I" (.int 1)) (z4 : Fld Z h0 a1 s3 "intLen" "I" (.int 1)) (z5 : Exa Z h0 a1 s3) (z6 : Fld Z h0 a2 s3 "value" "[I" (.ref gO89)) (z7 : Fld Z h0 a1 s3 "offset" "I" iZ) (z8 : Fld Z h0 a2 s3 "offset" "I" iZ) (z9 : Fld Z h0 a1 s3 "value" "[I" (.ref a4)) (z10 : Arv Z h0 a4 z1 .int 1 [(.int x1)] iZ) (VgO89 : Arv Z Z.heap gO89 z0 .int (1 : Int32) [(.int 1000000000)] iZ) (hc3 : ¬ ((x1 + (-2147483648 : Int32)) < (-1147483648 : Int32))) (hc4 : (-1147483648 : Int32) < (x1 + (-2147483648 : Int32))) (z11 : Exa Z h0 a3 s3) (z12 : Fld Z h0 a3 s3 "intLen" "I" iZ) (z13 : Fld Z h0 a3 s3 "offset" "I" iZ) (z14 : Fld Z h0 a3 s3 "value" "[I" (.ref a5)) (z15 : Arv Z h0 a5 z2 .int 1 [iZ] iZ) (z16 : Z.heap.size ≤ a3) (z17 : Z.heap.size ≤ a5) (z18 : Exa Z h0 a2 s3) (z19 : a2 ≠ a3) (z20 : a1 ≠ a3) (z21 : a4 ≠ a5) (hc28 : ¬ (((((x1.toInt64) &&& (4294967295 : Int64)) / (((1000000000 : Int32).toInt64) &&& (4294967295 : Int64))).toInt32) = (0 : Int32))) (hc30 : ((((x1.toInt64) &&& (4294967295 : Int64)) - ((((((x1.toInt64) &&& (4294967295 : Int64)) / (((1000000000 : Int32).toInt64) &&& (4294967295 : Int64))).toInt32).toInt64) * (((1000000000 : Int32).toInt64) &&& (4294967295 : Int64)))).toInt32) = (0 : Int32)) :
    CtrN l Z mn39 jdk_2101_method_57_code 8 (some (.object s3)) [] (⟨2, 2, 4, 26⟩ : Room) #[(.ref a1), (.ref a2), (.ref a3), (.int 1)] h0 [a5, a3] (fun v h => ∃ r1 : Addr, ∃ r2 : Addr, ∃ r3 : ClassId, h0.size ≤ r1 ∧ h0.size ≤ r2 ∧ Fld Z h a3 s3 "intLen" "I" (.int 1) ∧ Fld Z h a3 s3 "offset" "I" iZ ∧ Fld Z h a3 s3 "value" "[I" (.ref a5) ∧ Arv Z h a5 z2 .int 1 [(.int ((((x1.toInt64) &&& (4294967295 : Int64)) / (((1000000000 : Int32).toInt64) &&& (4294967295 : Int64))).toInt32))] iZ ∧ Exa Z h r1 s3 ∧ Fld Z h r1 s3 "offset" "I" iZ ∧ Fld Z h r1 s3 "value" "[I" (.ref r2) ∧ Fld Z h r1 s3 "intLen" "I" iZ ∧ Arv Z h r2 r3 .int 1 [iZ] iZ ∧ v = some (.ref r1)) := by
  refine CtrN.intro (L0 := #[vr a1, vr a2, vr a3, vi 1, un, un, un, un]) (plainFor_of_name pn7) O0 (fun _ => rfl) ?_
  intro p e s m below meth c T0 hy hml hret hlk hnm W0
  refine o_aloadN W0 1 (hb hy d42_0) rfl rfl rfl ?_
  refine o_getF W0 (w209 hw) Via.refl z3 4 (hb hy d42_1) rfl ?_
  intro T1 W1
  refine o_ifY W1 17 (hb hy d42_4) (XT.i0_ne_t (by decide)) (by decide) rfl <| o_aloadN W1 18 (hb hy d42_17) rfl rfl rfl ?_
  refine o_getF W1 (w209 hw) Via.refl z4 21 (hb hy d42_18) rfl ?_
  intro T2 W2
  refine o_ifY W2 50 (hb hy d42_21) (XT.i0_ne_t (by decide)) (by decide) rfl <| o_aloadN W2 51 (hb hy d42_50) rfl rfl rfl <| o_aloadN W2 52 (hb hy d42_51) rfl rfl rfl ?_
  refine o_virtualC W2 (w224 hw) (w225 hw) (o_nf W2 rfl (w227 hw)) (w227 hw) (w226 hw) (by decide) z5 (w228 hw) (w199 hw) (rm44 l hw gO89 z0 a1 a2 a4 z1 x1 h0 W2.old z3 z4 z6 z7 z8 z9 z10 VgO89 hc3 hc4) 0 0 0 (by decide) (by rw [hml]; rfl) (lenOf pd28 rfl) [] rfl rfl 55 (hb hy d42_52) rfl rfl rfl all0 tri ?_
  intro v5 T5 h5 lo5 W5 K5 q5
  obtain rfl := q5.2.2
  show Gl _ _ _ _ _ _ _ _ [(.int 1)]
  refine o_istore W5 (L' := #[vr a1, vr a2, vr a3, vi 1, vi 1, un, un, un]) 57 (hb hy d42_55) rfl rfl <| o_iload W5 59 (hb hy d42_57) rfl rfl <| o_ifY W5 89 (hb hy d42_59) (XT.i0_ge_t (by decide)) (by decide) rfl <| o_iload W5 91 (hb hy d42_89) rfl rfl <| o_ifY W5 127 (hb hy d42_91) (XT.i0_ne_t (by decide)) (by decide) rfl <| o_aloadN W5 128 (hb hy d42_127) rfl rfl rfl ?_
  have c6 := (z11.keep K5)
  have c7 := (z12.keep K5 nin0)
  have c8 := (z13.keep K5 nin0)
  have c9 := (z14.keep K5 nin0)
  have c10 := (z15.keep K5 nin0)
  refine o_virtualC W5 (w230 hw) (w231 hw) (o_nf W5 rfl (w233 hw)) (w233 hw) (w232 hw) (by decide) c6 (w234 hw) (w199 hw) (rm45 l hw a3 a5 z2 h5 W5.old c6 c7 z16 c8 c9 c10 z17) 0 0 0 (by decide) (by rw [hml]; rfl) (lenOf pd0 rfl) [] rfl rfl 131 (hb hy d42_128) rfl rfl rfl (allS ⟨z16, (Or.inl (List.mem_of_getElem? (i := 1) rfl))⟩ (allS ⟨z17, m0⟩ all0)) tri ?_
  intro v11 T11 h11 lo11 W11 K11 q11
  obtain ⟨P11_0, P11_1, P11_2, P11_3, rfl⟩ := q11.2.2
  show Gl _ _ _ _ _ _ _ _ []
  refine o_aloadN W11 132 (hb hy d42_131) rfl rfl rfl ?_
  have c12 := ((z18.keep K5).keep K11)
  have c13 := (z18.keep K5)
  have c14 := (c6.keep K11)
  have c15 := ((z3.keep K5 nin0).keep K11 (ninS z19 (ninS (Exa.neArv c13 c10 (w198 hw)) nin0)))
  refine o_getF W11 (w209 hw) Via.refl c15 135 (hb hy d42_132) rfl ?_
  intro T16 W16
  refine o_iconst W16 (v := 1) 136 (hb hy d42_135) rfl rfl <| o_icmpN W16 139 (hb hy d42_136) (XT.ii_ne_f (by decide)) rfl <| o_aloadN W16 140 (hb hy d42_139) rfl rfl rfl <| o_aloadN W16 141 (hb hy d42_140) rfl rfl rfl ?_
  have c17 := ((z6.keep K5 nin0).keep K11 (ninS z19 (ninS (Exa.neArv c13 c10 (w198 hw)) nin0)))
  refine o_getF W16 (w207 hw) Via.refl c17 144 (hb hy d42_141) rfl ?_
  intro T18 W18
  refine o_aloadN W18 145 (hb hy d42_144) rfl rfl rfl ?_
  have c19 := ((z8.keep K5 nin0).keep K11 (ninS z19 (ninS (Exa.neArv c13 c10 (w198 hw)) nin0)))
  refine o_getF W18 (w205 hw) Via.refl c19 148 (hb hy d42_145) rfl ?_
  intro T20 W20
  refine o_iaload W20 (VgO89.ext W20.ox) (x := (1000000000 : Int32)) (i := 0) (by decide) (by decide) (by decide) rfl 149 (hb hy d42_148) rfl <| o_aloadN W20 150 (hb hy d42_149) rfl rfl rfl ?_
  have c21 := ((z5.keep K5).keep K11)
  have c22 := (z5.keep K5)
  have c23 := ((z4.keep K5 nin0).keep K11 (ninS z20 (ninS (Exa.neArv c22 c10 (w198 hw)) nin0)))
  have c24 := ((z9.keep K5 nin0).keep K11 (ninS z20 (ninS (Exa.neArv c22 c10 (w198 hw)) nin0)))
  have c25 := ((z7.keep K5 nin0).keep K11 (ninS z20 (ninS (Exa.neArv c22 c10 (w198 hw)) nin0)))
  have c26 := (z10.keep K5 nin0)
  have c27 := ((z10.keep K5 nin0).keep K11 (ninS (Ne.symm (Exa.neArv c6 c26 (w198 hw))) (ninS z21 nin0)))
  refine o_virtualC W20 (w235 hw) (w236 hw) (o_nf W20 rfl (w238 hw)) (w238 hw) (w237 hw) (by decide) c21 (w239 hw) (w199 hw) (rm46 l hw a1 (1000000000 : Int32) a3 a4 z1 x1 a5 z2 h11 W20.old c23 c24 c25 c27 (by decide) P11_2 P11_3 z17 hc28 c14 P11_0 z16 P11_1) 0 0 0 (by decide) (by rw [hml]; rfl) (lenOf pd29 rfl) [] rfl rfl 153 (hb hy d42_150) rfl rfl rfl (allS ⟨z17, m0⟩ (allS ⟨z16, (Or.inl (List.mem_of_getElem? (i := 1) rfl))⟩ all0)) tri ?_
  intro v29 T29 h29 lo29 W29 K29 q29
  obtain ⟨P29_0, P29_1, P29_2, P29_3, rfl⟩ := q29.2.2
  show Gl _ _ _ _ _ _ _ _ [(.int ((((x1.toInt64) &&& (4294967295 : Int64)) - ((((((x1.toInt64) &&& (4294967295 : Int64)) / (((1000000000 : Int32).toInt64) &&& (4294967295 : Int64))).toInt32).toInt64) * (((1000000000 : Int32).toInt64) &&& (4294967295 : Int64)))).toInt32))]
  refine o_istore W29 (L' := #[vr a1, vr a2, vr a3, vi 1, vi 1, .val (.int ((((x1.toInt64) &&& (4294967295 : Int64)) - ((((((x1.toInt64) &&& (4294967295 : Int64)) / (((1000000000 : Int32).toInt64) &&& (4294967295 : Int64))).toInt32).toInt64) * (((1000000000 : Int32).toInt64) &&& (4294967295 : Int64)))).toInt32)), un, un]) 155 (hb hy d42_153) rfl rfl <| o_iloadN W29 156 (hb hy d42_155) rfl rfl <| o_ifN W29 159 (hb hy d42_156) (XT.i0_eq_f (by decide)) rfl <| o_iload W29 161 (hb hy d42_159) rfl rfl <| o_ifN W29 164 (hb hy d42_161) (XT.i0_ne_f hc30) rfl ?_
  refine o_new W29 (w241 hw) (w198 hw) (w199 hw) tri 167 (hb hy d42_164) rfl (cells' := 1) (slots' := 3) rfl rfl (by decide) (by decide) ?_
  intro b31 T31 h31 W31 E31 ge31 gz31 gb31 A31 D31
  have Fb31_offset : Fld Z h31 b31 s3 "offset" "I" iZ := D31 (Or.inl (w206 hw)) (ty := .int) (by decide)
  have Fb31_value : Fld Z h31 b31 s3 "value" "[I" .null := D31 (Or.inl (w208 hw)) (ty := (.array .int)) (by decide)
  have Fb31_intLen : Fld Z h31 b31 s3 "intLen" "I" iZ := D31 (Or.inl (w210 hw)) (ty := .int) (by decide)
  refine o_dup W31 168 (hb hy d42_167) rfl rfl ?_
  refine o_specialC W31 rfl (w242 hw) (w201 hw) (w203 hw) (by decide) (w199 hw) (rm41 l hw b31 h31 W31.old A31 Fb31_offset gz31 Fb31_value Fb31_intLen) 1 2 4 (by decide) (by rw [hml]; rfl) (lenOf pd0 rfl) [(.ref b31)] rfl rfl 171 (hb hy d42_168) rfl rfl rfl (allS ⟨gz31, (Or.inr gb31)⟩ all0) tri ?_
  intro v32 T32 h32 lo32 W32 K32 q32
  obtain ⟨r1_32, r2_32, P32_0, P32_1, P32_2, P32_3, P32_4, rfl⟩ := q32.2.2
  show Gl _ _ _ _ _ _ _ _ [(.ref b31)]
  have c33 := (c14.keep K29)
  have c34 := ((P29_2.ext E31).keep K32 (ninS (own_ne c33.lt ge31) nin0))
  have c35 := ((P29_3.ext E31).keep K32 (ninS (own_ne c33.lt ge31) nin0))
  have c36 := ((P29_0.ext E31).keep K32 (ninS (own_ne c33.lt ge31) nin0))
  have c37 := ((c33.ext E31).keep K32)
  have c38 := ((P29_1.ext E31).keep K32 (ninS (own_ne P29_1.lt ge31) nin0))
  have c39 := (A31.keep K32)
  exact o_retA W32 hlk (v := (.ref b31)) hret rfl rfl (hb hy d42_171) (by decide) (by decide) ⟨b31, r1_32, r2_32, gb31, (Nat.le_trans W31.keep.1 P32_0), c34, c35, c36, c38, c39, P32_1, P32_2, P32_3, P32_4, rfl⟩
theorem rm48 (l : Launch) {Z a0} (hw : HW Z a0) (gO89 : Addr) (z0 : ClassId) (a1 a2 a3 a4 : Addr) (z1 : ClassId) (x1 : Int32) (a5 : Addr) (z2 : ClassId) (h0 : Heap) (O0 : Old Z Z.heap.size h0) (z3 : Exa Z h0 a1 s3) (z4 : Fld Z h0 a2 s3 "intLen" "I" (.int 1)) (z5 : Fld Z h0 a1 s3 "intLen" "I" (.int 1)) (z6 : Fld Z h0 a2 s3 "value" "[I" (.ref gO89)) (z7 : Fld Z h0 a1 s3 "offset" "I" iZ) (z8 : Fld Z h0 a2 s3 "offset" "I" iZ) (z9 : Fld Z h0 a1 s3 "value" "[I" (.ref a4)) (z10 : Arv Z h0 a4 z1 .int 1 [(.int x1)] iZ) (VgO89 : Arv Z Z.heap gO89 z0 .int (1 : Int32) [(.int 1000000000)] iZ) (hc1 : ¬ ((x1 + (-2147483648 : Int32)) < (-1147483648 : Int32))) (hc2 : (-1147483648 : Int32) < (x1 + (-2147483648 : Int32))) (z11 : Exa Z h0 a3 s3) (z12 : Fld Z h0 a3 s3 "intLen" "I" iZ) (z13 : Fld Z h0 a3 s3 "offset" "I" iZ) (z14 : Fld Z h0 a3 s3 "value" "[I" (.ref a5)) (z15 : Arv Z h0 a5 z2 .int 1 [iZ] iZ) (z16 : Exa Z h0 a2 s3) (hc3 : ¬ (((((x1.toInt64) &&& (4294967295 : Int64)) / (((1000000000 : Int32).toInt64) &&& (4294967295 : Int64))).toInt32) = (0 : Int32))) (hc4 : ((((x1.toInt64) &&& (4294967295 : Int64)) - ((((((x1.toInt64) &&& (4294967295 : Int64)) / (((1000000000 : Int32).toInt64) &&& (4294967295 : Int64))).toInt32).toInt64) * (((1000000000 : Int32).toInt64) &&& (4294967295 : Int64)))).toInt32) = (0 : Int32)) (z17 : Z.heap.size ≤ a3) (z18 : Z.heap.size ≤ a5) (z19 : a2 ≠ a3) (z20 : a1 ≠ a3) (z21 : a4 ≠ a5) :
    CtrN l Z mn40 jdk_2101_method_56_code 3 (some (.object s3)) [] (⟨3, 2, 4, 45⟩ : Room) #[(.ref a1), (.ref a2), (.ref a3)] h0 [a3, a5] (fun v h => ∃ r1 : Addr, ∃ r2 : Addr, ∃ r3 : ClassId, h0.size ≤ r1 ∧ h0.size ≤ r2 ∧ Fld Z h a3 s3 "intLen" "I" (.int 1) ∧ Fld Z h a3 s3 "offset" "I" iZ ∧ Fld Z h a3 s3 "value" "[I" (.ref a5) ∧ Arv Z h a5 z2 .int 1 [(.int ((((x1.toInt64) &&& (4294967295 : Int64)) / (((1000000000 : Int32).toInt64) &&& (4294967295 : Int64))).toInt32))] iZ ∧ Exa Z h r1 s3 ∧ Fld Z h r1 s3 "offset" "I" iZ ∧ Fld Z h r1 s3 "value" "[I" (.ref r2) ∧ Fld Z h r1 s3 "intLen" "I" iZ ∧ Arv Z h r2 r3 .int 1 [iZ] iZ ∧ v = some (.ref r1)) := by
  refine CtrN.intro (L0 := #[vr a1, vr a2, vr a3]) (plainFor_of_name pn7) O0 (fun _ => rfl) ?_
  intro p e s m below meth c T0 hy hml hret hlk hnm W0
  refine o_aloadN W0 1 (hb hy d41_0) rfl rfl rfl <| o_aloadN W0 2 (hb hy d41_1) rfl rfl rfl <| o_aloadN W0 3 (hb hy d41_2) rfl rfl rfl <| o_iconst W0 (v := 1) 4 (hb hy d41_3) rfl rfl ?_
  refine o_virtualC W0 (w219 hw) (w220 hw) (o_nf W0 rfl (w222 hw)) (w222 hw) (w221 hw) (by decide) z3 (w223 hw) (w199 hw) (rm47 l hw gO89 z0 a1 a2 a3 a4 z1 x1 a5 z2 h0 W0.old z4 z5 z3 z6 z7 z8 z9 z10 VgO89 hc1 hc2 z11 z12 z13 z14 z15 z17 z18 z16 z19 z20 z21 hc3 hc4) 0 2 4 (by decide) (by rw [hml]; rfl) (lenOf pd30 rfl) [] rfl rfl 7 (hb hy d41_4) rfl rfl rfl (allS ⟨z18, (Or.inl (List.mem_of_getElem? (i := 1) rfl))⟩ (allS ⟨z17, m0⟩ all0)) tri ?_
  intro v5 T5 h5 lo5 W5 K5 q5
  obtain ⟨r1_5, r2_5, r3_5, P5_0, P5_1, P5_2, P5_3, P5_4, P5_5, P5_6, P5_7, P5_8, P5_9, P5_10, rfl⟩ := q5.2.2
  show Gl _ _ _ _ _ _ _ _ [(.ref r1_5)]
  have c6 := (z11.keep K5)
  exact o_retA W5 hlk (v := (.ref r1_5)) hret rfl rfl (hb hy d41_7) (by decide) (by decide) ⟨r1_5, r2_5, r3_5, (Nat.le_trans W0.keep.1 P5_0), (Nat.le_trans W0.keep.1 P5_1), P5_2, P5_3, P5_4, P5_5, P5_6, P5_7, P5_8, P5_9, P5_10, rfl⟩
theorem rm49 (l : Launch) {Z a0} (hw : HW Z a0) (a1 a2 : Addr) (z0 : ClassId) (x1 : Int32) (h0 : Heap) (O0 : Old Z Z.heap.size h0) (z1 : Fld Z h0 a1 s3 "offset" "I" iZ) (z2 : Fld Z h0 a1 s3 "value" "[I" (.ref a2)) (z3 : Arv Z h0 a2 z0 .int 1 [(.int x1)] iZ) (z4 : Fld Z h0 a1 s3 "intLen" "I" (.int 1)) :
    CtrN l Z mn41 jdk_2101_method_7_code 2 (some (.array .int)) [] (⟨0, 0, 0, 0⟩ : Room) #[(.ref a1)] h0 [] (fun v h => v = some (.ref a2)) := by
  refine CtrN.intro (L0 := #[vr a1, un]) (plainFor_of_name pn7) O0 (fun _ => rfl) ?_
  intro p e s m below meth c T0 hy hml hret hlk hnm W0
  refine o_aloadN W0 1 (hb hy d47_0) rfl rfl rfl ?_
  refine o_getF W0 (w205 hw) Via.refl z1 4 (hb hy d47_1) rfl ?_
  intro T1 W1
  refine o_ifN W1 7 (hb hy d47_4) (XT.i0_gt_f (by decide)) rfl <| o_aloadN W1 8 (hb hy d47_7) rfl rfl rfl ?_
  refine o_getF W1 (w207 hw) Via.refl z2 11 (hb hy d47_8) rfl ?_
  intro T2 W2
  refine o_len W2 z3 12 (hb hy d47_11) rfl <| o_aloadN W2 13 (hb hy d47_12) rfl rfl rfl ?_
  refine o_getF W2 (w209 hw) Via.refl z4 16 (hb hy d47_13) rfl ?_
  intro T3 W3
  refine o_icmpY W3 64 (hb hy d47_16) (XT.ii_eq_t (by decide)) (by decide) rfl <| o_aloadN W3 65 (hb hy d47_64) rfl rfl rfl ?_
  refine o_getF W3 (w207 hw) Via.refl z2 68 (hb hy d47_65) rfl ?_
  intro T4 W4
  exact o_retA W4 hlk (v := (.ref a2)) hret rfl rfl (hb hy d47_68) (by decide) (by decide) rfl
theorem rm50 (l : Launch) {Z a0} (hw : HW Z a0) (a1 a2 : Addr) (z0 : ClassId) (x1 : Int32) (h0 : Heap) (O0 : Old Z Z.heap.size h0) (z1 : Arv Z h0 a2 z0 .int 1 [(.int x1)] iZ) (z2 : Exa Z h0 a1 s1) (z3 : Fld Z h0 a1 s1 "signum" "I" iZ) (z4 : Z.heap.size ≤ a1) (z5 : Fld Z h0 a1 s1 "mag" "[I" .null) (z6 : Fld Z h0 a1 s1 s8 "I" iZ) :
    CtrN l Z mn42 jdk_2097_method_25_code 3 none [] (⟨2, 0, 0, 24⟩ : Room) #[(.ref a1), (.ref a2), (.int 1)] h0 [a1] (fun v h => Fld Z h a1 s1 "signum" "I" (.int 1) ∧ Fld Z h a1 s1 "mag" "[I" (.ref a2) ∧ Fld Z h a1 s1 s8 "I" iZ ∧ v = none) := by
  refine CtrN.intro (L0 := #[vr a1, vr a2, vi 1]) (plainFor_of_name pn6) O0 (fun _ => rfl) ?_
  intro p e s m below meth c T0 hy hml hret hlk hnm W0
  refine o_aloadN W0 1 (hb hy d48_0) rfl rfl rfl ?_
  refine o_specialC W0 rfl (w178 hw) (w115 hw) (w119 hw) (by decide) (w118 hw) (rm19 l hw a1 h0 W0.old ) 0 0 0 (by decide) (by rw [hml]; rfl) (lenOf pd0 rfl) [] rfl rfl 4 (hb hy d48_1) rfl rfl rfl all0 tri ?_
  intro v1 T1 h1 lo1 W1 K1 q1
  obtain rfl := q1.2.2
  show Gl _ _ _ _ _ _ _ _ []
  refine o_aloadN W1 5 (hb hy d48_4) rfl rfl rfl <| o_aloadN W1 6 (hb hy d48_5) rfl rfl rfl ?_
  have c2 := (z1.keep K1 nin0)
  refine o_len W1 c2 7 (hb hy d48_6) rfl <| o_ifY W1 14 (hb hy d48_7) (XT.i0_ne_t (by decide)) (by decide) rfl <| o_iloadN W1 15 (hb hy d48_14) rfl rfl ?_
  have c3 := (z2.keep K1)
  have c4 := (z3.keep K1 nin0)
  refine o_putF W1 (w180 hw) Via.refl c4 c3 (Or.inr ⟨(w181 hw), rfl, hnm⟩) (w173 hw) (ty := .int) (v' := (.int 1)) (by decide) rfl rfl z4 m0 tri 18 (hb hy d48_15) rfl ?_
  intro T5 h5 lo5 W5 R5
  have F5 := c4.same R5
  refine o_aloadN W5 19 (hb hy d48_18) rfl rfl rfl <| o_aloadN W5 20 (hb hy d48_19) rfl rfl rfl ?_
  have c6 := (c3.wr R5)
  have c7 := ((z5.keep K1 nin0).other R5 (Or.inr (slot_ne (Or.inr (w184 hw)) (Or.inr (w181 hw)) (by decide) (t := (.array .int)) (t' := .int) (by decide) (by decide))))
  refine o_putF W5 (w183 hw) Via.refl c7 c6 (Or.inr ⟨(w184 hw), rfl, hnm⟩) (w173 hw) (ty := (.array .int)) (v' := (.ref a2)) (by decide) rfl rfl z4 m0 tri 23 (hb hy d48_20) rfl ?_
  intro T8 h8 lo8 W8 R8
  have F8 := c7.same R8
  refine o_aloadN W8 24 (hb hy d48_23) rfl rfl rfl ?_
  refine o_getF W8 (w183 hw) Via.refl F8 27 (hb hy d48_24) rfl ?_
  intro T9 W9
  have c10 := (c6.wr R8)
  have c11 := (c2.other R5 (Ne.symm (Exa.neArv c3 c2 (w173 hw))))
  have c12 := ((c2.other R5 (Ne.symm (Exa.neArv c3 c2 (w173 hw)))).other R8 (Ne.symm (Exa.neArv c6 c11 (w173 hw))))
  refine o_len W9 c12 28 (hb hy d48_27) rfl <| o_ldcI W9 (w257 hw) 30 (hb hy d48_28) rfl <| o_icmpY W9 37 (hb hy d48_30) (XT.ii_lt_t (by decide)) (by decide) rfl ?_
  have c13 := (F5.other R8 (Or.inr (slot_ne (Or.inr (w181 hw)) (Or.inr (w184 hw)) (by decide) (t := .int) (t' := (.array .int)) (by decide) (by decide))))
  have c14 := (((z6.keep K1 nin0).other R5 (Or.inr (slot_ne (Or.inl (w265 hw)) (Or.inr (w181 hw)) (by decide) (t := .int) (t' := .int) (by decide) (by decide)))).other R8 (Or.inr (slot_ne (Or.inl (w265 hw)) (Or.inr (w184 hw)) (by decide) (t := .int) (t' := (.array .int)) (by decide) (by decide))))
  exact o_ret0 W9 hlk hret (hb hy d48_37) (by decide) (by decide) ⟨c13, F8, c14, rfl⟩
theorem rm51 (l : Launch) {Z a0} (hw : HW Z a0) (a1 a2 : Addr) (z0 : ClassId) (x1 : Int32) (h0 : Heap) (O0 : Old Z Z.heap.size h0) (z1 : Fld Z h0 a1 s3 "intLen" "I" (.int 1)) (z2 : Exa Z h0 a1 s3) (z3 : Fld Z h0 a1 s3 "offset" "I" iZ) (z4 : Fld Z h0 a1 s3 "value" "[I" (.ref a2)) (z5 : Arv Z h0 a2 z0 .int 1 [(.int x1)] iZ) :
    CtrN l Z mn43 jdk_2101_method_9_code 2 (some (.object s1)) [] (⟨3, 1, 6, 39⟩ : Room) #[(.ref a1), (.int 1)] h0 [] (fun v h => ∃ r1 : Addr, h0.size ≤ r1 ∧ Exa Z h r1 s1 ∧ Fld Z h r1 s1 "signum" "I" (.int 1) ∧ Fld Z h r1 s1 "mag" "[I" (.ref a2) ∧ Fld Z h r1 s1 s8 "I" iZ ∧ v = some (.ref r1)) := by
  refine CtrN.intro (L0 := #[vr a1, vi 1]) (plainFor_of_name pn7) O0 (fun _ => rfl) ?_
  intro p e s m below meth c T0 hy hml hret hlk hnm W0
  refine o_aloadN W0 1 (hb hy d46_0) rfl rfl rfl ?_
  refine o_getF W0 (w209 hw) Via.refl z1 4 (hb hy d46_1) rfl ?_
  intro T1 W1
  refine o_ifN W1 7 (hb hy d46_4) (XT.i0_eq_f (by decide)) rfl <| o_iloadN W1 8 (hb hy d46_7) rfl rfl <| o_ifY W1 15 (hb hy d46_8) (XT.i0_ne_t (by decide)) (by decide) rfl ?_
  refine o_new W1 (w248 hw) (w173 hw) (w169 hw) tri 18 (hb hy d46_15) rfl (cells' := 1) (slots' := 6) rfl rfl (by decide) (by decide) ?_
  intro b2 T2 h2 W2 E2 ge2 gz2 gb2 A2 D2
  have Fb2_signum : Fld Z h2 b2 s1 "signum" "I" iZ := D2 (Or.inr (w181 hw)) (ty := .int) (by decide)
  have Fb2_mag : Fld Z h2 b2 s1 "mag" "[I" .null := D2 (Or.inr (w184 hw)) (ty := (.array .int)) (by decide)
  have Fb2_bitLengthPlusOne : Fld Z h2 b2 s1 s8 "I" iZ := D2 (Or.inl (w265 hw)) (ty := .int) (by decide)
  refine o_dup W2 19 (hb hy d46_18) rfl rfl <| o_aloadN W2 20 (hb hy d46_19) rfl rfl rfl ?_
  have c3 := (z2.ext E2)
  have c4 := (z3.ext E2)
  have c5 := (z4.ext E2)
  have c6 := (z5.ext E2)
  have c7 := (z1.ext E2)
  refine o_privateC W2 (w249 hw) (w250 hw) (w252 hw) (w251 hw) (w253 hw) (by decide) c3 (w199 hw) (rm49 l hw a1 a2 z0 x1 h2 W2.old c4 c5 c6 c7) 2 1 6 (by decide) (by rw [hml]; rfl) (lenOf pd32 rfl) [(.ref b2), (.ref b2)] rfl rfl 23 (hb hy d46_20) rfl rfl rfl all0 tri ?_
  intro v8 T8 h8 lo8 W8 K8 q8
  obtain rfl := q8.2.2
  show Gl _ _ _ _ _ _ _ _ [(.ref a2), (.ref b2), (.ref b2)]
  refine o_iloadN W8 24 (hb hy d46_23) rfl rfl ?_
  have c9 := (c6.keep K8 nin0)
  have c10 := (Fb2_signum.keep K8 nin0)
  have c11 := (Fb2_mag.keep K8 nin0)
  have c12 := (Fb2_bitLengthPlusOne.keep K8 nin0)
  have c13 := (A2.keep K8)
  refine o_specialC W8 rfl (w254 hw) (w255 hw) (w256 hw) (by decide) (w169 hw) (rm50 l hw b2 a2 z0 x1 h8 W8.old c9 c13 c10 gz2 c11 c12) 1 1 6 (by decide) (by rw [hml]; rfl) (lenOf pd33 rfl) [(.ref b2)] rfl rfl 27 (hb hy d46_24) rfl rfl rfl (allS ⟨gz2, (Or.inr gb2)⟩ all0) tri ?_
  intro v14 T14 h14 lo14 W14 K14 q14
  obtain ⟨P14_0, P14_1, P14_2, rfl⟩ := q14.2.2
  show Gl _ _ _ _ _ _ _ _ [(.ref b2)]
  have c15 := (c13.keep K14)
  exact o_retA W14 hlk (v := (.ref b2)) hret rfl rfl (hb hy d46_27) (by decide) (by decide) ⟨b2, gb2, c15, P14_0, P14_1, P14_2, rfl⟩
theorem rm52 (l : Launch) {Z a0} (hw : HW Z a0) (gO90 a1 : Addr) (h0 : Heap) (O0 : Old Z Z.heap.size h0) (z0 : Fld Z h0 a1 s3 "intLen" "I" iZ) (z1 : Sta Z Z.heap s1 "ZERO" s5 (.ref gO90)) :
    CtrN l Z mn43 jdk_2101_method_9_code 2 (some (.object s1)) [] (⟨0, 0, 0, 0⟩ : Room) #[(.ref a1), (.int 1)] h0 [] (fun v h => v = some (.ref gO90)) := by
  refine CtrN.intro (L0 := #[vr a1, vi 1]) (plainFor_of_name pn7) O0 (fun _ => rfl) ?_
  intro p e s m below meth c T0 hy hml hret hlk hnm W0
  refine o_aloadN W0 1 (hb hy d46_0) rfl rfl rfl ?_
  refine o_getF W0 (w209 hw) Via.refl z0 4 (hb hy d46_1) rfl ?_
  intro T1 W1
  refine o_ifY W1 11 (hb hy d46_4) (XT.i0_eq_t (by decide)) (by decide) rfl ?_
  refine o_getS W1 (w258 hw) Via.refl (z1.ext W1.ox) 14 (hb hy d46_11) rfl ?_
  intro T2 W2
  exact o_retA W2 hlk (v := (.ref gO90)) hret rfl rfl (hb hy d46_14) (by decide) (by decide) rfl
theorem rm53 (l : Launch) {Z a0} (hw : HW Z a0) (gO88 gO89 gO90 : Addr) (z0 : ClassId) (a1 a2 : Addr) (z1 : ClassId) (x1 : Int32) (h0 : Heap) (O0 : Old Z Z.heap.size h0) (z2 : Fld Z h0 a1 s1 "mag" "[I" (.ref a2)) (z3 : Arv Z h0 a2 z1 .int 1 [(.int x1)] iZ) (z4 : Fld Z Z.heap gO88 s1 "mag" "[I" (.ref gO89)) (VgO89 : Arv Z Z.heap gO89 z0 .int (1 : Int32) [(.int 1000000000)] iZ) (hc21 : ¬ ((x1 + (-2147483648 : Int32)) < (-1147483648 : Int32))) (hc22 : (-1147483648 : Int32) < (x1 + (-2147483648 : Int32))) (hc30 : ¬ (((((x1.toInt64) &&& (4294967295 : Int64)) / (((1000000000 : Int32).toInt64) &&& (4294967295 : Int64))).toInt32) = (0 : Int32))) (hc31 : ((((x1.toInt64) &&& (4294967295 : Int64)) - ((((((x1.toInt64) &&& (4294967295 : Int64)) / (((1000000000 : Int32).toInt64) &&& (4294967295 : Int64))).toInt32).toInt64) * (((1000000000 : Int32).toInt64) &&& (4294967295 : Int64)))).toInt32) = (0 : Int32)) (z5 : Fld Z h0 a1 s1 "signum" "I" (.int 1)) (z6 : Fld Z Z.heap gO88 s1 "signum" "I" (.int 1)) (z7 : Sta Z Z.heap s1 "ZERO" s5 (.ref gO90)) (XgO90 : Exa Z Z.heap gO90 s1) :
    CtrN l Z mn44 jdk_2097_method_64_code 7 (some (.array (.object s1))) [] (⟨4, 8, 22, 59⟩ : Room) #[(.ref a1), (.ref gO88)] h0 [] (fun v h => ∃ r1 : Addr, ∃ r2 : Addr, ∃ r3 : Addr, ∃ r4 : ClassId, ∃ r5 : ClassId, h0.size ≤ r1 ∧ h0.size ≤ r2 ∧ h0.size ≤ r3 ∧ Arv Z h r1 r4 (.object s1) 2 [(.ref r2), (.ref gO90)] .null ∧ Ovr Z r4 s1 ∧ Exa Z h r2 s1 ∧ Fld Z h r2 s1 "signum" "I" (.int 1) ∧ Fld Z h r2 s1 "mag" "[I" (.ref r3) ∧ Fld Z h r2 s1 s8 "I" iZ ∧ Arv Z h r3 r5 .int 1 [(.int ((((x1.toInt64) &&& (4294967295 : Int64)) / (((1000000000 : Int32).toInt64) &&& (4294967295 : Int64))).toInt32))] iZ ∧ v = some (.ref r1)) := by
  refine CtrN.intro (L0 := #[vr a1, vr gO88, un, un, un, un, un]) (plainFor_of_name pn6) O0 (fun _ => rfl) ?_
  intro p e s m below meth c T0 hy hml hret hlk hnm W0
  refine o_iconst W0 (v := 2) 1 (hb hy d38_0) rfl rfl ?_
  refine o_newR W0 (w172 hw) (w196 hw) tri (by decide) (cap := 2) (by decide) (by decide) 4 (hb hy d38_1) rfl (cells' := 1) (slots' := 2) rfl rfl (by decide) (by decide) (vs := [.null, .null]) rfl ?_
  intro b1 T1 h1 k1 W1 E1 ge1 gz1 gb1 V1 O1
  refine o_astoreN W1 (L' := #[vr a1, vr gO88, vr b1, un, un, un, un]) 5 (hb hy d38_4) rfl rfl rfl ?_
  refine o_new W1 (w197 hw) (w198 hw) (w199 hw) tri 8 (hb hy d38_5) rfl (cells' := 2) (slots' := 5) rfl rfl (by decide) (by decide) ?_
  intro b2 T2 h2 W2 E2 ge2 gz2 gb2 A2 D2
  have Fb2_offset : Fld Z h2 b2 s3 "offset" "I" iZ := D2 (Or.inl (w206 hw)) (ty := .int) (by decide)
  have Fb2_value : Fld Z h2 b2 s3 "value" "[I" .null := D2 (Or.inl (w208 hw)) (ty := (.array .int)) (by decide)
  have Fb2_intLen : Fld Z h2 b2 s3 "intLen" "I" iZ := D2 (Or.inl (w210 hw)) (ty := .int) (by decide)
  refine o_dup W2 9 (hb hy d38_8) rfl rfl ?_
  refine o_specialC W2 rfl (w200 hw) (w201 hw) (w203 hw) (by decide) (w199 hw) (rm41 l hw b2 h2 W2.old A2 Fb2_offset gz2 Fb2_value Fb2_intLen) 1 3 6 (by decide) (by rw [hml]; rfl) (lenOf pd0 rfl) [(.ref b2)] rfl rfl 12 (hb hy d38_9) rfl rfl rfl (allS ⟨gz2, (Or.inr gb2)⟩ all0) tri ?_
  intro v3 T3 h3 lo3 W3 K3 q3
  obtain ⟨r1_3, r2_3, P3_0, P3_1, P3_2, P3_3, P3_4, rfl⟩ := q3.2.2
  show Gl _ _ _ _ _ _ _ _ [(.ref b2)]
  refine o_astoreN W3 (L' := #[vr a1, vr gO88, vr b1, vr b2, un, un, un]) 13 (hb hy d38_12) rfl rfl rfl ?_
  refine o_new W3 (w197 hw) (w198 hw) (w199 hw) tri 16 (hb hy d38_13) rfl (cells' := 4) (slots' := 9) rfl rfl (by decide) (by decide) ?_
  intro b4 T4 h4 W4 E4 ge4 gz4 gb4 A4 D4
  have Fb4_offset : Fld Z h4 b4 s3 "offset" "I" iZ := D4 (Or.inl (w206 hw)) (ty := .int) (by decide)
  have Fb4_value : Fld Z h4 b4 s3 "value" "[I" .null := D4 (Or.inl (w208 hw)) (ty := (.array .int)) (by decide)
  have Fb4_intLen : Fld Z h4 b4 s3 "intLen" "I" iZ := D4 (Or.inl (w210 hw)) (ty := .int) (by decide)
  refine o_dup W4 17 (hb hy d38_16) rfl rfl <| o_aloadN W4 18 (hb hy d38_17) rfl rfl rfl ?_
  have c5 := (z2.ext E1)
  have c6 := ((((z2.ext E1).ext E2).keep K3 (ninS (own_ne c5.lt ge2) nin0)).ext E4)
  refine o_getF W4 (w183 hw) Via.refl c6 21 (hb hy d38_18) rfl ?_
  intro T7 W7
  have c8 := (z3.ext E1)
  have c9 := ((((z3.ext E1).ext E2).keep K3 (ninS (own_ne c8.lt ge2) nin0)).ext E4)
  refine o_specialC W7 rfl (w211 hw) (w212 hw) (w213 hw) (by decide) (w199 hw) (rm42 l hw b4 a2 z1 x1 h4 W7.old A4 Fb4_offset gz4 Fb4_value c9 Fb4_intLen) 1 4 9 (by decide) (by rw [hml]; rfl) (lenOf pd27 rfl) [(.ref b4)] rfl rfl 24 (hb hy d38_21) rfl rfl rfl (allS ⟨gz4, (Or.inr gb4)⟩ all0) tri ?_
  intro v10 T10 h10 lo10 W10 K10 q10
  obtain ⟨P10_0, P10_1, P10_2, rfl⟩ := q10.2.2
  show Gl _ _ _ _ _ _ _ _ [(.ref b4)]
  refine o_astore W10 (L' := #[vr a1, vr gO88, vr b1, vr b2, vr b4, un, un]) 26 (hb hy d38_24) rfl rfl rfl ?_
  refine o_new W10 (w197 hw) (w198 hw) (w199 hw) tri 29 (hb hy d38_26) rfl (cells' := 5) (slots' := 12) rfl rfl (by decide) (by decide) ?_
  intro b11 T11 h11 W11 E11 ge11 gz11 gb11 A11 D11
  have Fb11_offset : Fld Z h11 b11 s3 "offset" "I" iZ := D11 (Or.inl (w206 hw)) (ty := .int) (by decide)
  have Fb11_value : Fld Z h11 b11 s3 "value" "[I" .null := D11 (Or.inl (w208 hw)) (ty := (.array .int)) (by decide)
  have Fb11_intLen : Fld Z h11 b11 s3 "intLen" "I" iZ := D11 (Or.inl (w210 hw)) (ty := .int) (by decide)
  refine o_dup W11 30 (hb hy d38_29) rfl rfl <| o_aloadN W11 31 (hb hy d38_30) rfl rfl rfl ?_
  refine o_getF W11 (w183 hw) Via.refl (z4.ext W11.ox) 34 (hb hy d38_31) rfl ?_
  intro T12 W12
  refine o_specialC W12 rfl (w211 hw) (w212 hw) (w213 hw) (by decide) (w199 hw) (rm43 l hw gO89 z0 b11 h11 W12.old A11 Fb11_offset gz11 Fb11_value VgO89 Fb11_intLen) 1 5 12 (by decide) (by rw [hml]; rfl) (lenOf pd27 rfl) [(.ref b11)] rfl rfl 37 (hb hy d38_34) rfl rfl rfl (allS ⟨gz11, (Or.inr gb11)⟩ all0) tri ?_
  intro v13 T13 h13 lo13 W13 K13 q13
  obtain ⟨P13_0, P13_1, P13_2, rfl⟩ := q13.2.2
  show Gl _ _ _ _ _ _ _ _ [(.ref b11)]
  refine o_astore W13 (L' := #[vr a1, vr gO88, vr b1, vr b2, vr b4, vr b11, un]) 39 (hb hy d38_37) rfl rfl rfl <| o_aload W13 41 (hb hy d38_39) rfl rfl rfl <| o_aload W13 43 (hb hy d38_41) rfl rfl rfl <| o_aloadN W13 44 (hb hy d38_43) rfl rfl rfl ?_
  have c14 := (A4.keep K10)
  have c15 := ((P10_2.ext E11).keep K13 (ninS (own_ne c14.lt ge11) nin0))
  have c16 := ((P10_0.ext E11).keep K13 (ninS (own_ne c14.lt ge11) nin0))
  have c17 := ((P10_1.ext E11).keep K13 (ninS (own_ne c14.lt ge11) nin0))
  have c18 := ((c8.ext E2).keep K3 (ninS (own_ne c8.lt ge2) nin0))
  have c19 := (c9.keep K10 (ninS (own_ne c18.lt ge4) nin0))
  have c20 := (((c9.keep K10 (ninS (own_ne c18.lt ge4) nin0)).ext E11).keep K13 (ninS (own_ne c19.lt ge11) nin0))
  have c23 := (A2.keep K3)
  have c24 := ((c23.ext E4).keep K10)
  have c25 := ((((P3_3.ext E4).keep K10 (ninS (own_ne c23.lt ge4) nin0)).ext E11).keep K13 (ninS (own_ne c24.lt ge11) nin0))
  have c26 := ((((P3_1.ext E4).keep K10 (ninS (own_ne c23.lt ge4) nin0)).ext E11).keep K13 (ninS (own_ne c24.lt ge11) nin0))
  have c27 := ((((P3_2.ext E4).keep K10 (ninS (own_ne c23.lt ge4) nin0)).ext E11).keep K13 (ninS (own_ne c24.lt ge11) nin0))
  have c28 := ((P3_4.ext E4).keep K10 (ninS (own_ne P3_4.lt ge4) nin0))
  have c29 := ((((P3_4.ext E4).keep K10 (ninS (own_ne P3_4.lt ge4) nin0)).ext E11).keep K13 (ninS (own_ne c28.lt ge11) nin0))
  have c32 := ((c14.ext E11).keep K13)
  have c33 := ((c24.ext E11).keep K13)
  have c34 := (A11.keep K13)
  have c35 := (c8.ext E2)
  refine o_virtualC W13 (w214 hw) (w215 hw) (o_nf W13 rfl (w217 hw)) (w217 hw) (w216 hw) (by decide) c32 (w218 hw) (w199 hw) (rm48 l hw gO89 z0 b4 b11 b2 a2 z1 x1 r1_3 r2_3 h13 W13.old c32 P13_2 c15 P13_1 c16 P13_0 c17 c20 VgO89 hc21 hc22 c33 c25 c26 c27 c29 c34 hc30 hc31 gz2 (Nat.le_trans W2.zs P3_0) (own_ne' c24.lt ge11) (own_ne' c23.lt ge4) (own_ne c35.lt P3_0)) 0 7 16 (by decide) (by rw [hml]; rfl) (lenOf pd31 rfl) [] rfl rfl 47 (hb hy d38_44) rfl rfl rfl (allS ⟨gz2, (Or.inr gb2)⟩ (allS ⟨(Nat.le_trans W2.zs P3_0), (Or.inr (Nat.le_trans W2.keep.1 P3_0))⟩ all0)) tri ?_
  intro v36 T36 h36 lo36 W36 K36 q36
  obtain ⟨r1_36, r2_36, r3_36, P36_0, P36_1, P36_2, P36_3, P36_4, P36_5, P36_6, P36_7, P36_8, P36_9, P36_10, rfl⟩ := q36.2.2
  show Gl _ _ _ _ _ _ _ _ [(.ref r1_36)]
  refine o_astore W36 (L' := #[vr a1, vr gO88, vr b1, vr b2, vr b4, vr b11, vr r1_36]) 49 (hb hy d38_47) rfl rfl rfl <| o_aloadN W36 50 (hb hy d38_49) rfl rfl rfl <| o_iconst W36 (v := 0) 51 (hb hy d38_50) rfl rfl <| o_aloadN W36 52 (hb hy d38_51) rfl rfl rfl <| o_aloadN W36 53 (hb hy d38_52) rfl rfl rfl ?_
  have c37 := ((c5.ext E2).keep K3 (ninS (own_ne c5.lt ge2) nin0))
  have c38 := (c6.keep K10 (ninS (own_ne c37.lt ge4) nin0))
  have c39 := (c5.ext E2)
  have c40 := ((((((((z5.ext E1).ext E2).keep K3 (ninS (own_ne c5.lt ge2) nin0)).ext E4).keep K10 (ninS (own_ne c37.lt ge4) nin0)).ext E11).keep K13 (ninS (own_ne c38.lt ge11) nin0)).keep K36 (ninS (own_ne c5.lt ge2) (ninS (own_ne c39.lt P3_0) nin0)))
  refine o_getF W36 (w180 hw) Via.refl c40 56 (hb hy d38_53) rfl ?_
  intro T41 W41
  refine o_aloadN W41 57 (hb hy d38_56) rfl rfl rfl ?_
  refine o_getF W41 (w180 hw) Via.refl (z6.ext W41.ox) 60 (hb hy d38_57) rfl ?_
  intro T42 W42
  refine o_icmpN W42 63 (hb hy d38_60) (XT.ii_ne_f (by decide)) rfl <| o_iconst W42 (v := 1) 64 (hb hy d38_63) rfl rfl <| o_goto W42 68 (hb hy d38_64) (by decide) rfl ?_
  have c43 := (c33.keep K36)
  refine o_virtualC W42 (w243 hw) (w244 hw) (o_nf W42 rfl (w246 hw)) (w246 hw) (w245 hw) (by decide) c43 (w247 hw) (w199 hw) (rm51 l hw b2 r1_3 r2_3 ((((x1.toInt64) &&& (4294967295 : Int64)) / (((1000000000 : Int32).toInt64) &&& (4294967295 : Int64))).toInt32) h36 W42.old P36_2 c43 P36_3 P36_4 P36_5) 2 8 22 (by decide) (by rw [hml]; rfl) (lenOf pd34 rfl) [iZ, (.ref b1)] rfl rfl 71 (hb hy d38_68) rfl rfl rfl all0 tri ?_
  intro v44 T44 h44 lo44 W44 K44 q44
  obtain ⟨r1_44, P44_0, P44_1, P44_2, P44_3, P44_4, rfl⟩ := q44.2.2
  show Gl _ _ _ _ _ _ _ _ [(.ref r1_44), iZ, (.ref b1)]
  have c45 := ((V1.ext E2).keep K3 (ninS (own_ne V1.lt ge2) nin0))
  have c46 := ((c45.ext E4).keep K10 (ninS (own_ne c45.lt ge4) nin0))
  have c47 := (V1.ext E2)
  have c48 := ((((((((V1.ext E2).keep K3 (ninS (own_ne V1.lt ge2) nin0)).ext E4).keep K10 (ninS (own_ne c45.lt ge4) nin0)).ext E11).keep K13 (ninS (own_ne c46.lt ge11) nin0)).keep K36 (ninS (own_ne V1.lt ge2) (ninS (own_ne c47.lt P3_0) nin0))).keep K44 nin0)
  refine o_stR W44 c48 (i := 0) rfl rfl (own_stoV c48 O1 (Ins.self P44_1)) (by decide) (by decide) (by decide) (Nat.lt_of_sub_eq_succ rfl) (vs' := [(.ref r1_44), .null]) rfl gz1 (Or.inr gb1) tri 72 (hb hy d38_71) rfl ?_
  intro T49 h49 lo49 W49 R49 V49
  refine o_aloadN W49 73 (hb hy d38_72) rfl rfl rfl <| o_iconst W49 (v := 1) 74 (hb hy d38_73) rfl rfl <| o_aload W49 76 (hb hy d38_74) rfl rfl rfl <| o_aloadN W49 77 (hb hy d38_76) rfl rfl rfl ?_
  have c50 := ((c40.keep K44 nin0).other R49 (Or.inl (own_ne z2.lt ge1)))
  refine o_getF W49 (w180 hw) Via.refl c50 80 (hb hy d38_77) rfl ?_
  intro T51 W51
  have c52 := ((c46.ext E11).keep K13 (ninS (own_ne c46.lt ge11) nin0))
  have c53 := ((P36_9.keep K44 nin0).other R49 (Or.inl (own_ne' c52.lt P36_0)))
  have c54 := ((P36_6.keep K44).wr R49)
  refine o_virtualC W51 (w243 hw) (w244 hw) (o_nf W51 rfl (w246 hw)) (w246 hw) (w245 hw) (by decide) c54 (w247 hw) (w199 hw) (rm52 l hw gO90 r1_36 h49 W51.old c53 z7) 2 8 22 (by decide) (by rw [hml]; rfl) (lenOf pd34 rfl) [(.int 1), (.ref b1)] rfl rfl 83 (hb hy d38_80) rfl rfl rfl all0 tri ?_
  intro v55 T55 h55 lo55 W55 K55 q55
  obtain rfl := q55.2.2
  show Gl _ _ _ _ _ _ _ _ [(.ref gO90), (.int 1), (.ref b1)]
  have c56 := (V49.keep K55 nin0)
  refine o_stR W55 c56 (i := 1) rfl rfl (own_stoV c56 O1 (Ins.self (XgO90.ext W55.ox))) (by decide) (by decide) (by decide) (Nat.lt_of_sub_eq_succ rfl) (vs' := [(.ref r1_44), (.ref gO90)]) rfl gz1 (Or.inr gb1) tri 84 (hb hy d38_83) rfl ?_
  intro T57 h57 lo57 W57 R57 V57
  refine o_aloadN W57 85 (hb hy d38_84) rfl rfl rfl ?_
  have c58 := (((P44_1.wr R49).keep K55).wr R57)
  have c59 := (c52.keep K36 (ninS (own_ne V1.lt ge2) (ninS (own_ne c47.lt P3_0) nin0)))
  have c60 := (((P44_2.other R49 (Or.inl (own_ne' c59.lt P44_0))).keep K55 nin0).other R57 (Or.inl (own_ne' c59.lt P44_0)))
  have c61 := (((P44_3.other R49 (Or.inl (own_ne' c59.lt P44_0))).keep K55 nin0).other R57 (Or.inl (own_ne' c59.lt P44_0)))
  have c62 := (((P44_4.other R49 (Or.inl (own_ne' c59.lt P44_0))).keep K55 nin0).other R57 (Or.inl (own_ne' c59.lt P44_0)))
  have c63 := ((((P36_5.keep K44 nin0).other R49 (own_ne' c47.lt P3_0)).keep K55 nin0).other R57 (own_ne' c47.lt P3_0))
  exact o_retA W57 hlk (v := (.ref b1)) hret rfl rfl (hb hy d38_85) (by decide) (by decide) ⟨b1, r1_44, r1_3, k1, r2_3, gb1, (Nat.le_trans W42.keep.1 P44_0), (Nat.le_trans W2.keep.1 P3_0), V57, O1, c58, c60, c61, c62, c63, rfl⟩
theorem rm54 (l : Launch) {Z a0} (hw : HW Z a0) (gO88 gO89 gO90 : Addr) (z0 : ClassId) (a1 a2 : Addr) (z1 : ClassId) (x1 : Int32) (h0 : Heap) (O0 : Old Z Z.heap.size h0) (z2 : Fld Z Z.heap gO88 s1 "mag" "[I" (.ref gO89)) (VgO89 : Arv Z Z.heap gO89 z0 .int (1 : Int32) [(.int 1000000000)] iZ) (z3 : Exa Z h0 a1 s1) (z4 : Fld Z h0 a1 s1 "mag" "[I" (.ref a2)) (z5 : Arv Z h0 a2 z1 .int 1 [(.int x1)] iZ) (hc2 : ¬ ((x1 + (-2147483648 : Int32)) < (-1147483648 : Int32))) (hc3 : (-1147483648 : Int32) < (x1 + (-2147483648 : Int32))) (hc4 : ¬ (((((x1.toInt64) &&& (4294967295 : Int64)) / (((1000000000 : Int32).toInt64) &&& (4294967295 : Int64))).toInt32) = (0 : Int32))) (hc5 : ((((x1.toInt64) &&& (4294967295 : Int64)) - ((((((x1.toInt64) &&& (4294967295 : Int64)) / (((1000000000 : Int32).toInt64) &&& (4294967295 : Int64))).toInt32).toInt64) * (((1000000000 : Int32).toInt64) &&& (4294967295 : Int64)))).toInt32) = (0 : Int32)) (z6 : Fld Z h0 a1 s1 "signum" "I" (.int 1)) (z7 : Fld Z Z.heap gO88 s1 "signum" "I" (.int 1)) (z8 : Sta Z Z.heap s1 "ZERO" s5 (.ref gO90)) (XgO90 : Exa Z Z.heap gO90 s1) :
    CtrN l Z mn45 jdk_2097_method_63_code 2 (some (.array (.object s1))) [] (⟨5, 8, 22, 77⟩ : Room) #[(.ref a1), (.ref gO88)] h0 [] (fun v h => ∃ r1 : Addr, ∃ r2 : Addr, ∃ r3 : Addr, ∃ r4 : ClassId, ∃ r5 : ClassId, h0.size ≤ r1 ∧ h0.size ≤ r2 ∧ h0.size ≤ r3 ∧ Arv Z h r1 r4 (.object s1) 2 [(.ref r2), (.ref gO90)] .null ∧ Ovr Z r4 s1 ∧ Exa Z h r2 s1 ∧ Fld Z h r2 s1 "signum" "I" (.int 1) ∧ Fld Z h r2 s1 "mag" "[I" (.ref r3) ∧ Fld Z h r2 s1 s8 "I" iZ ∧ Arv Z h r3 r5 .int 1 [(.int ((((x1.toInt64) &&& (4294967295 : Int64)) / (((1000000000 : Int32).toInt64) &&& (4294967295 : Int64))).toInt32))] iZ ∧ v = some (.ref r1)) := by
  refine CtrN.intro (L0 := #[vr a1, vr gO88]) (plainFor_of_name pn6) O0 (fun _ => rfl) ?_
  intro p e s m below meth c T0 hy hml hret hlk hnm W0
  refine o_aloadN W0 1 (hb hy d37_0) rfl rfl rfl ?_
  refine o_getF W0 (w183 hw) Via.refl (z2.ext W0.ox) 4 (hb hy d37_1) rfl ?_
  intro T1 W1
  refine o_len W1 (VgO89.ext W1.ox) 5 (hb hy d37_4) rfl <| o_bipush W1 (v := 80) 7 (hb hy d37_5) (by decide) rfl <| o_icmpY W1 26 (hb hy d37_7) (XT.ii_lt_t (by decide)) (by decide) rfl <| o_aloadN W1 27 (hb hy d37_26) rfl rfl rfl <| o_aloadN W1 28 (hb hy d37_27) rfl rfl rfl ?_
  refine o_privateC W1 (w191 hw) (w192 hw) (w194 hw) (w193 hw) (w195 hw) (by decide) z3 (w169 hw) (rm53 l hw gO88 gO89 gO90 z0 a1 a2 z1 x1 h0 W1.old z4 z5 z2 VgO89 hc2 hc3 hc4 hc5 z6 z7 z8 XgO90) 0 8 22 (by decide) (by rw [hml]; rfl) (lenOf pd35 rfl) [] rfl rfl 31 (hb hy d37_28) rfl rfl rfl all0 tri ?_
  intro v6 T6 h6 lo6 W6 K6 q6
  obtain ⟨r1_6, r2_6, r3_6, r4_6, r5_6, P6_0, P6_1, P6_2, P6_3, P6_4, P6_5, P6_6, P6_7, P6_8, P6_9, rfl⟩ := q6.2.2
  show Gl _ _ _ _ _ _ _ _ [(.ref r1_6)]
  exact o_retA W6 hlk (v := (.ref r1_6)) hret rfl rfl (hb hy d37_31) (by decide) (by decide) ⟨r1_6, r2_6, r3_6, r4_6, r5_6, (Nat.le_trans W1.keep.1 P6_0), (Nat.le_trans W1.keep.1 P6_1), (Nat.le_trans W1.keep.1 P6_2), P6_3, P6_4, P6_5, P6_6, P6_7, P6_8, P6_9, rfl⟩
theorem rm55 (l : Launch) {Z a0} (hw : HW Z a0) (x1 : Int32) (h0 : Heap) (O0 : Old Z Z.heap.size h0) (hc1 : (0 : Int32) < x1) (hc2 : x1 < (65536 : Int32)) (hc3 : x1 < (256 : Int32)) (hc4 : x1 < (16 : Int32)) (hc5 : x1 < (4 : Int32)) :
    CtrN l Z mn46 jdk_33_method_47_code 2 (some .int) [] (⟨0, 0, 0, 0⟩ : Room) #[(.int x1)] h0 [] (fun v h => v = some (.int ((31 : Int32) - ((x1.toUInt32 >>> ((1 : Int32) &&& 31).toUInt32).toInt32)))) := by
  refine CtrN.intro (L0 := #[vi x1, un]) (plainFor_of_name pn8) O0 (fun _ => rfl) ?_
  intro p e s m below meth c T0 hy hml hret hlk hnm W0
  refine o_iloadN W0 1 (hb hy d51_0) rfl rfl <| o_ifY W0 15 (hb hy d51_1) (XT.i0_gt_t hc1) (by decide) rfl <| o_bipush W0 (v := 31) 17 (hb hy d51_15) (by decide) rfl <| o_istoreN W0 (L' := #[vi x1, vi 31]) 18 (hb hy d51_17) rfl rfl <| o_iloadN W0 19 (hb hy d51_18) rfl rfl ?_
  refine o_ldcWI W0 (w273 hw) 22 (hb hy d51_19) rfl ?_
  refine o_icmpY W0 33 (hb hy d51_22) (XT.ii_lt_t hc2) (by decide) rfl <| o_iloadN W0 34 (hb hy d51_33) rfl rfl <| o_sipush W0 (v := 256) 37 (hb hy d51_34) (by decide) rfl <| o_icmpY W0 48 (hb hy d51_37) (XT.ii_lt_t hc3) (by decide) rfl <| o_iloadN W0 49 (hb hy d51_48) rfl rfl <| o_bipush W0 (v := 16) 51 (hb hy d51_49) (by decide) rfl ?_
  refine o_icmpY W0 61 (hb hy d51_51) (XT.ii_lt_t hc4) (by decide) rfl <| o_iloadN W0 62 (hb hy d51_61) rfl rfl <| o_iconst W0 (v := 4) 63 (hb hy d51_62) rfl rfl <| o_icmpY W0 73 (hb hy d51_63) (XT.ii_lt_t hc5) (by decide) rfl <| o_iloadN W0 74 (hb hy d51_73) rfl rfl <| o_iloadN W0 75 (hb hy d51_74) rfl rfl ?_
  refine o_iconst W0 (v := 1) 76 (hb hy d51_75) rfl rfl <| o_iushr W0 (v := ((x1.toUInt32 >>> ((1 : Int32) &&& 31).toUInt32).toInt32)) 77 (hb hy d51_76) rfl rfl <| o_isub W0 (v := ((31 : Int32) - ((x1.toUInt32 >>> ((1 : Int32) &&& 31).toUInt32).toInt32))) 78 (hb hy d51_77) rfl rfl ?_
  exact o_retI W0 hlk hret (hb hy d51_78) (by decide) (by decide) rfl
theorem rm56 (l : Launch) {Z a0} (hw : HW Z a0) (x1 : Int32) (h0 : Heap) (O0 : Old Z Z.heap.size h0) (hc1 : (0 : Int32) < x1) (hc2 : x1 < (65536 : Int32)) (hc3 : x1 < (256 : Int32)) (hc4 : x1 < (16 : Int32)) (hc5 : x1 < (4 : Int32)) :
    CtrN l Z mn47 jdk_2097_method_74_code 1 (some .int) [] (⟨1, 0, 0, 14⟩ : Room) #[(.int x1)] h0 [] (fun v h => v = some (.int ((32 : Int32) - ((31 : Int32) - ((x1.toUInt32 >>> ((1 : Int32) &&& 31).toUInt32).toInt32))))) := by
  refine CtrN.intro (L0 := #[vi x1]) (plainFor_of_name pn6) O0 (fun _ => rfl) ?_
  intro p e s m below meth c T0 hy hml hret hlk hnm W0
  refine o_bipush W0 (v := 32) 2 (hb hy d50_0) (by decide) rfl <| o_iloadN W0 3 (hb hy d50_2) rfl rfl ?_
  refine o_staticC W0 (w269 hw) (w270 hw) (w271 hw) (w272 hw) (by decide) (rm55 l hw x1 h0 W0.old hc1 hc2 hc3 hc4 hc5) 1 0 0 (by decide) (by rw [hml]; rfl) (lenOf pd36 rfl) [(.int 32)] rfl rfl 6 (hb hy d50_3) rfl rfl rfl all0 tri ?_
  intro v6 T6 h6 lo6 W6 K6 q6
  obtain rfl := q6.2.2
  show Gl _ _ _ _ _ _ _ _ [(.int ((31 : Int32) - ((x1.toUInt32 >>> ((1 : Int32) &&& 31).toUInt32).toInt32))), (.int 32)]
  refine o_isub W6 (v := ((32 : Int32) - ((31 : Int32) - ((x1.toUInt32 >>> ((1 : Int32) &&& 31).toUInt32).toInt32)))) 7 (hb hy d50_6) rfl rfl ?_
  exact o_retI W6 hlk hret (hb hy d50_7) (by decide) (by decide) rfl
theorem rm57 (l : Launch) {Z a0} (hw : HW Z a0) (a1 a2 : Addr) (z0 : ClassId) (x1 : Int32) (h0 : Heap) (O0 : Old Z Z.heap.size h0) (z1 : Fld Z h0 a1 s1 s8 "I" iZ) (z2 : Fld Z h0 a1 s1 "mag" "[I" (.ref a2)) (z3 : Arv Z h0 a2 z0 .int 1 [(.int x1)] iZ) (hc4 : (0 : Int32) < x1) (hc5 : x1 < (65536 : Int32)) (hc6 : x1 < (256 : Int32)) (hc7 : x1 < (16 : Int32)) (hc8 : x1 < (4 : Int32)) (z4 : Fld Z h0 a1 s1 "signum" "I" (.int 1)) (z5 : Exa Z h0 a1 s1) (z6 : Z.heap.size ≤ a1) :
    CtrN l Z mn48 jdk_2097_method_118_code 7 (some .int) [] (⟨2, 0, 0, 27⟩ : Room) #[(.ref a1)] h0 [a1] (fun v h => Fld Z h a1 s1 s8 "I" (.int (((0 : Int32) + ((32 : Int32) - ((31 : Int32) - ((x1.toUInt32 >>> ((1 : Int32) &&& 31).toUInt32).toInt32)))) + 1)) ∧ Fld Z h a1 s1 "mag" "[I" (.ref a2) ∧ Fld Z h a1 s1 "signum" "I" (.int 1) ∧ v = some (.int ((0 : Int32) + ((32 : Int32) - ((31 : Int32) - ((x1.toUInt32 >>> ((1 : Int32) &&& 31).toUInt32).toInt32)))))) := by
  refine CtrN.intro (L0 := #[vr a1, un, un, un, un, un, un]) (plainFor_of_name pn6) O0 (fun _ => rfl) ?_
  intro p e s m below meth c T0 hy hml hret hlk hnm W0
  refine o_aloadN W0 1 (hb hy d49_0) rfl rfl rfl ?_
  refine o_getF W0 (w264 hw) Via.refl z1 4 (hb hy d49_1) rfl ?_
  intro T1 W1
  refine o_iconst W1 (v := 1) 5 (hb hy d49_4) rfl rfl <| o_isub W1 (v := (-1 : Int32)) 6 (hb hy d49_5) (by decide) rfl <| o_istoreN W1 (L' := #[vr a1, vi (-1 : Int32), un, un, un, un, un]) 7 (hb hy d49_6) rfl rfl <| o_iloadN W1 8 (hb hy d49_7) rfl rfl <| o_iconst W1 (v := (-1 : Int32)) 9 (hb hy d49_8) (by decide) rfl <| o_icmpN W1 12 (hb hy d49_9) (XT.ii_ne_f (by decide)) rfl ?_
  refine o_aloadN W1 13 (hb hy d49_12) rfl rfl rfl ?_
  refine o_getF W1 (w183 hw) Via.refl z2 16 (hb hy d49_13) rfl ?_
  intro T2 W2
  refine o_astoreN W2 (L' := #[vr a1, vi (-1 : Int32), vr a2, un, un, un, un]) 17 (hb hy d49_16) rfl rfl rfl <| o_aloadN W2 18 (hb hy d49_17) rfl rfl rfl <| o_len W2 z3 19 (hb hy d49_18) rfl <| o_istoreN W2 (L' := #[vr a1, vi (-1 : Int32), vr a2, vi 1, un, un, un]) 20 (hb hy d49_19) rfl rfl <| o_iloadN W2 21 (hb hy d49_20) rfl rfl <| o_ifY W2 29 (hb hy d49_21) (XT.i0_ne_t (by decide)) (by decide) rfl ?_
  refine o_iloadN W2 30 (hb hy d49_29) rfl rfl <| o_iconst W2 (v := 1) 31 (hb hy d49_30) rfl rfl <| o_isub W2 (v := 0) 32 (hb hy d49_31) (by decide) rfl <| o_iconst W2 (v := 5) 33 (hb hy d49_32) rfl rfl <| o_ishl W2 (v := 0) 34 (hb hy d49_33) (by decide) rfl <| o_aloadN W2 35 (hb hy d49_34) rfl rfl rfl ?_
  refine o_getF W2 (w183 hw) Via.refl z2 38 (hb hy d49_35) rfl ?_
  intro T3 W3
  refine o_iconst W3 (v := 0) 39 (hb hy d49_38) rfl rfl <| o_iaload W3 z3 (x := x1) (i := 0) (by decide) (by decide) (by decide) rfl 40 (hb hy d49_39) rfl ?_
  refine o_staticC W3 (w266 hw) (w267 hw) (w169 hw) (w268 hw) (by decide) (rm56 l hw x1 h0 W3.old hc4 hc5 hc6 hc7 hc8) 1 0 0 (by decide) (by rw [hml]; rfl) (lenOf pd36 rfl) [iZ] rfl rfl 43 (hb hy d49_40) rfl rfl rfl all0 tri ?_
  intro v9 T9 h9 lo9 W9 K9 q9
  obtain rfl := q9.2.2
  show Gl _ _ _ _ _ _ _ _ [(.int ((32 : Int32) - ((31 : Int32) - ((x1.toUInt32 >>> ((1 : Int32) &&& 31).toUInt32).toInt32)))), iZ]
  refine o_iadd W9 (v := ((0 : Int32) + ((32 : Int32) - ((31 : Int32) - ((x1.toUInt32 >>> ((1 : Int32) &&& 31).toUInt32).toInt32))))) 44 (hb hy d49_43) rfl rfl <| o_istore W9 (L' := #[vr a1, vi (-1 : Int32), vr a2, vi 1, .val (.int ((0 : Int32) + ((32 : Int32) - ((31 : Int32) - ((x1.toUInt32 >>> ((1 : Int32) &&& 31).toUInt32).toInt32))))), un, un]) 46 (hb hy d49_44) rfl rfl <| o_aloadN W9 47 (hb hy d49_46) rfl rfl rfl ?_
  have c10 := (z4.keep K9 nin0)
  refine o_getF W9 (w180 hw) Via.refl c10 50 (hb hy d49_47) rfl ?_
  intro T11 W11
  refine o_ifY W11 128 (hb hy d49_50) (XT.i0_ge_t (by decide)) (by decide) rfl <| o_iload W11 130 (hb hy d49_128) rfl rfl <| o_istoreN W11 (L' := #[vr a1, .val (.int ((0 : Int32) + ((32 : Int32) - ((31 : Int32) - ((x1.toUInt32 >>> ((1 : Int32) &&& 31).toUInt32).toInt32))))), vr a2, vi 1, .val (.int ((0 : Int32) + ((32 : Int32) - ((31 : Int32) - ((x1.toUInt32 >>> ((1 : Int32) &&& 31).toUInt32).toInt32))))), un, un]) 131 (hb hy d49_130) rfl rfl <| o_aloadN W11 132 (hb hy d49_131) rfl rfl rfl <| o_iloadN W11 133 (hb hy d49_132) rfl rfl <| o_iconst W11 (v := 1) 134 (hb hy d49_133) rfl rfl ?_
  refine o_iadd W11 (v := (((0 : Int32) + ((32 : Int32) - ((31 : Int32) - ((x1.toUInt32 >>> ((1 : Int32) &&& 31).toUInt32).toInt32)))) + 1)) 135 (hb hy d49_134) rfl rfl ?_
  have c12 := (z5.keep K9)
  have c13 := (z1.keep K9 nin0)
  refine o_putF W11 (w264 hw) Via.refl c13 c12 (Or.inl (w265 hw)) (w173 hw) (ty := .int) (v' := (.int (((0 : Int32) + ((32 : Int32) - ((31 : Int32) - ((x1.toUInt32 >>> ((1 : Int32) &&& 31).toUInt32).toInt32)))) + 1))) (by decide) rfl rfl z6 m0 tri 138 (hb hy d49_135) rfl ?_
  intro T14 h14 lo14 W14 R14
  have F14 := c13.same R14
  refine o_iloadN W14 139 (hb hy d49_138) rfl rfl ?_
  have c15 := (c10.other R14 (Or.inr (slot_ne (Or.inr (w181 hw)) (Or.inl (w265 hw)) (by decide) (t := .int) (t' := .int) (by decide) (by decide))))
  have c16 := ((z2.keep K9 nin0).other R14 (Or.inr (slot_ne (Or.inr (w184 hw)) (Or.inl (w265 hw)) (by decide) (t := (.array .int)) (t' := .int) (by decide) (by decide))))
  have c17 := (c12.wr R14)
  exact o_retI W14 hlk hret (hb hy d49_139) (by decide) (by decide) ⟨F14, c16, c15, rfl⟩
theorem rm58 (l : Launch) {Z a0} (hw : HW Z a0) (a1 : Addr) (h0 : Heap) (O0 : Old Z Z.heap.size h0) (z0 : Fld Z h0 a1 s1 "signum" "I" (.int 1)) :
    CtrN l Z mn49 jdk_2097_method_147_code 1 (some .int) [] (⟨0, 0, 0, 0⟩ : Room) #[(.ref a1)] h0 [] (fun v h => v = some iZ) := by
  refine CtrN.intro (L0 := #[vr a1]) (plainFor_of_name pn6) O0 (fun _ => rfl) ?_
  intro p e s m below meth c T0 hy hml hret hlk hnm W0
  refine o_aloadN W0 1 (hb hy d54_0) rfl rfl rfl ?_
  refine o_getF W0 (w180 hw) Via.refl z0 4 (hb hy d54_1) rfl ?_
  intro T1 W1
  refine o_ifY W1 11 (hb hy d54_4) (XT.i0_ge_t (by decide)) (by decide) rfl <| o_iconst W1 (v := 0) 12 (hb hy d54_11) rfl rfl ?_
  exact o_retI W1 hlk hret (hb hy d54_12) (by decide) (by decide) rfl
theorem rm59 (l : Launch) {Z a0} (hw : HW Z a0) (a1 a2 : Addr) (z0 : ClassId) (x1 : Int32) (h0 : Heap) (O0 : Old Z Z.heap.size h0) (z1 : Fld Z h0 a1 s1 "mag" "[I" (.ref a2)) (z2 : Arv Z h0 a2 z0 .int 1 [(.int x1)] iZ) (z3 : Exa Z h0 a1 s1) (z4 : Fld Z h0 a1 s1 "signum" "I" (.int 1)) :
    CtrN l Z mn50 jdk_2097_method_148_code 3 (some .int) [] (⟨1, 0, 0, 12⟩ : Room) #[(.ref a1), (.int 1)] h0 [] (fun v h => v = some iZ) := by
  refine CtrN.intro (L0 := #[vr a1, vi 1, un]) (plainFor_of_name pn6) O0 (fun _ => rfl) ?_
  intro p e s m below meth c T0 hy hml hret hlk hnm W0
  refine o_iloadN W0 1 (hb hy d53_0) rfl rfl <| o_ifY W0 6 (hb hy d53_1) (XT.i0_ge_t (by decide)) (by decide) rfl <| o_iloadN W0 7 (hb hy d53_6) rfl rfl <| o_aloadN W0 8 (hb hy d53_7) rfl rfl rfl ?_
  refine o_getF W0 (w183 hw) Via.refl z1 11 (hb hy d53_8) rfl ?_
  intro T1 W1
  refine o_len W1 z2 12 (hb hy d53_11) rfl <| o_icmpN W1 15 (hb hy d53_12) (XT.ii_lt_f (by decide)) rfl <| o_aloadN W1 16 (hb hy d53_15) rfl rfl rfl ?_
  refine o_privateC W1 (w284 hw) (w285 hw) (w287 hw) (w286 hw) (w288 hw) (by decide) z3 (w169 hw) (rm58 l hw a1 h0 W1.old z4) 0 0 0 (by decide) (by rw [hml]; rfl) (lenOf pd9 rfl) [] rfl rfl 19 (hb hy d53_16) rfl rfl rfl all0 tri ?_
  intro v2 T2 h2 lo2 W2 K2 q2
  obtain rfl := q2.2.2
  show Gl _ _ _ _ _ _ _ _ [iZ]
  exact o_retI W2 hlk hret (hb hy d53_19) (by decide) (by decide) rfl
theorem rm60 (l : Launch) {Z a0} (hw : HW Z a0) (a1 a2 : Addr) (z0 : ClassId) (x1 : Int32) (h0 : Heap) (O0 : Old Z Z.heap.size h0) (z1 : Fld Z h0 a1 s1 "mag" "[I" (.ref a2)) (z2 : Arv Z h0 a2 z0 .int 1 [(.int x1)] iZ) (z3 : Fld Z h0 a1 s1 "signum" "I" (.int 1)) :
    CtrN l Z mn50 jdk_2097_method_148_code 3 (some .int) [] (⟨0, 0, 0, 0⟩ : Room) #[(.ref a1), iZ] h0 [] (fun v h => v = some (.int x1)) := by
  refine CtrN.intro (L0 := #[vr a1, vi 0, un]) (plainFor_of_name pn6) O0 (fun _ => rfl) ?_
  intro p e s m below meth c T0 hy hml hret hlk hnm W0
  refine o_iloadN W0 1 (hb hy d53_0) rfl rfl <| o_ifY W0 6 (hb hy d53_1) (XT.i0_ge_t (by decide)) (by decide) rfl <| o_iloadN W0 7 (hb hy d53_6) rfl rfl <| o_aloadN W0 8 (hb hy d53_7) rfl rfl rfl ?_
  refine o_getF W0 (w183 hw) Via.refl z1 11 (hb hy d53_8) rfl ?_
  intro T1 W1
  refine o_len W1 z2 12 (hb hy d53_11) rfl <| o_icmpY W1 20 (hb hy d53_12) (XT.ii_lt_t (by decide)) (by decide) rfl <| o_aloadN W1 21 (hb hy d53_20) rfl rfl rfl ?_
  refine o_getF W1 (w183 hw) Via.refl z1 24 (hb hy d53_21) rfl ?_
  intro T2 W2
  refine o_aloadN W2 25 (hb hy d53_24) rfl rfl rfl ?_
  refine o_getF W2 (w183 hw) Via.refl z1 28 (hb hy d53_25) rfl ?_
  intro T3 W3
  refine o_len W3 z2 29 (hb hy d53_28) rfl <| o_iloadN W3 30 (hb hy d53_29) rfl rfl <| o_isub W3 (v := 1) 31 (hb hy d53_30) (by decide) rfl <| o_iconst W3 (v := 1) 32 (hb hy d53_31) rfl rfl <| o_isub W3 (v := 0) 33 (hb hy d53_32) (by decide) rfl <| o_iaload W3 z2 (x := x1) (i := 0) (by decide) (by decide) (by decide) rfl 34 (hb hy d53_33) rfl ?_
  refine o_istoreN W3 (L' := #[vr a1, vi 0, vi x1]) 35 (hb hy d53_34) rfl rfl <| o_aloadN W3 36 (hb hy d53_35) rfl rfl rfl ?_
  refine o_getF W3 (w180 hw) Via.refl z3 39 (hb hy d53_36) rfl ?_
  intro T4 W4
  refine o_ifN W4 42 (hb hy d53_39) (XT.i0_lt_f (by decide)) rfl <| o_iloadN W4 43 (hb hy d53_42) rfl rfl <| o_goto W4 62 (hb hy d53_43) (by decide) rfl ?_
  exact o_retI W4 hlk hret (hb hy d53_62) (by decide) (by decide) rfl
theorem rm61 (l : Launch) {Z a0} (hw : HW Z a0) (a1 a2 : Addr) (z0 : ClassId) (x1 : Int32) (h0 : Heap) (O0 : Old Z Z.heap.size h0) (z1 : Exa Z h0 a1 s1) (z2 : Fld Z h0 a1 s1 "mag" "[I" (.ref a2)) (z3 : Arv Z h0 a2 z0 .int 1 [(.int x1)] iZ) (z4 : Fld Z h0 a1 s1 "signum" "I" (.int 1)) :
    CtrN l Z mn51 jdk_2097_method_136_code 4 (some .long) [] (⟨2, 0, 0, 28⟩ : Room) #[(.ref a1)] h0 [] (fun v h => v = some (.long ((0 : Int64) + ((x1.toInt64) &&& (4294967295 : Int64))))) := by
  refine CtrN.intro (L0 := #[vr a1, un, un, un]) (plainFor_of_name pn6) O0 (fun _ => rfl) ?_
  intro p e s m below meth c T0 hy hml hret hlk hnm W0
  refine o_lconst W0 (v := 0) 1 (hb hy d52_0) (by decide) rfl <| o_lstoreN W0 (L' := #[vr a1, .val (.long 0), .second, un]) 2 (hb hy d52_1) rfl rfl <| o_iconst W0 (v := 1) 3 (hb hy d52_2) rfl rfl <| o_istoreN W0 (L' := #[vr a1, .val (.long 0), .second, vi 1]) 4 (hb hy d52_3) rfl rfl <| o_iloadN W0 5 (hb hy d52_4) rfl rfl <| o_ifN W0 8 (hb hy d52_5) (XT.i0_lt_f (by decide)) rfl ?_
  refine o_lloadN W0 9 (hb hy d52_8) rfl rfl <| o_bipush W0 (v := 32) 11 (hb hy d52_9) (by decide) rfl <| o_lshl W0 (v := 0) 12 (hb hy d52_11) (by decide) rfl <| o_aloadN W0 13 (hb hy d52_12) rfl rfl rfl <| o_iloadN W0 14 (hb hy d52_13) rfl rfl ?_
  refine o_privateC W0 (w279 hw) (w280 hw) (w282 hw) (w281 hw) (w283 hw) (by decide) z1 (w169 hw) (rm59 l hw a1 a2 z0 x1 h0 W0.old z2 z3 z1 z4) 2 0 0 (by decide) (by rw [hml]; rfl) (lenOf pd36 rfl) [(.long 0)] rfl rfl 17 (hb hy d52_14) rfl rfl rfl all0 tri ?_
  intro v1 T1 h1 lo1 W1 K1 q1
  obtain rfl := q1.2.2
  show Gl _ _ _ _ _ _ _ _ [iZ, (.long 0)]
  refine o_i2l W1 (v := 0) 18 (hb hy d52_17) (by decide) rfl <| o_ldcJ W1 (w289 hw) 21 (hb hy d52_18) rfl <| o_land W1 (v := 0) 22 (hb hy d52_21) (by decide) rfl <| o_ladd W1 (v := 0) 23 (hb hy d52_22) (by decide) rfl <| o_lstoreN W1 (L' := #[vr a1, .val (.long 0), .second, vi 1]) 24 (hb hy d52_23) rfl rfl <| o_iinc W1 (v := 0) (L' := #[vr a1, .val (.long 0), .second, vi 0]) 27 (hb hy d52_24) rfl (by decide) rfl rfl ?_
  refine o_goto W1 4 (hb hy d52_27) (by decide) rfl <| o_iloadN W1 5 (hb hy d52_4) rfl rfl <| o_ifN W1 8 (hb hy d52_5) (XT.i0_lt_f (by decide)) rfl <| o_lloadN W1 9 (hb hy d52_8) rfl rfl <| o_bipush W1 (v := 32) 11 (hb hy d52_9) (by decide) rfl <| o_lshl W1 (v := 0) 12 (hb hy d52_11) (by decide) rfl ?_
  refine o_aloadN W1 13 (hb hy d52_12) rfl rfl rfl <| o_iloadN W1 14 (hb hy d52_13) rfl rfl ?_
  have c2 := (z2.keep K1 nin0)
  have c3 := (z3.keep K1 nin0)
  have c4 := (z4.keep K1 nin0)
  have c5 := (z1.keep K1)
  refine o_privateC W1 (w279 hw) (w280 hw) (w282 hw) (w281 hw) (w283 hw) (by decide) c5 (w169 hw) (rm60 l hw a1 a2 z0 x1 h1 W1.old c2 c3 c4) 2 0 0 (by decide) (by rw [hml]; rfl) (lenOf pd36 rfl) [(.long 0)] rfl rfl 17 (hb hy d52_14) rfl rfl rfl all0 tri ?_
  intro v6 T6 h6 lo6 W6 K6 q6
  obtain rfl := q6.2.2
  show Gl _ _ _ _ _ _ _ _ [(.int x1), (.long 0)]
  refine o_i2l W6 (v := (x1.toInt64)) 18 (hb hy d52_17) rfl rfl <| o_ldcJ W6 (w289 hw) 21 (hb hy d52_18) rfl <| o_land W6 (v := ((x1.toInt64) &&& (4294967295 : Int64))) 22 (hb hy d52_21) rfl rfl <| o_ladd W6 (v := ((0 : Int64) + ((x1.toInt64) &&& (4294967295 : Int64)))) 23 (hb hy d52_22) rfl rfl <| o_lstoreN W6 (L' := #[vr a1, .val (.long ((0 : Int64) + ((x1.toInt64) &&& (4294967295 : Int64)))), .second, vi 0]) 24 (hb hy d52_23) rfl rfl <| o_iinc W6 (v := (-1 : Int32)) (L' := #[vr a1, .val (.long ((0 : Int64) + ((x1.toInt64) &&& (4294967295 : Int64)))), .second, vi (-1 : Int32)]) 27 (hb hy d52_24) rfl (by decide) rfl rfl ?_
  refine o_goto W6 4 (hb hy d52_27) (by decide) rfl <| o_iloadN W6 5 (hb hy d52_4) rfl rfl <| o_ifY W6 30 (hb hy d52_5) (XT.i0_lt_t (by decide)) (by decide) rfl <| o_lloadN W6 31 (hb hy d52_30) rfl rfl ?_
  exact o_retJ W6 hlk hret (hb hy d52_31) (by decide) (by decide) rfl
theorem rm62 (l : Launch) {Z a0} (hw : HW Z a0) (gO90 : Addr) (h0 : Heap) (O0 : Old Z Z.heap.size h0) (z0 : Fld Z Z.heap gO90 s1 "signum" "I" iZ) :
    CtrN l Z mn49 jdk_2097_method_147_code 1 (some .int) [] (⟨0, 0, 0, 0⟩ : Room) #[(.ref gO90)] h0 [] (fun v h => v = some iZ) := by
  refine CtrN.intro (L0 := #[vr gO90]) (plainFor_of_name pn6) O0 (fun _ => rfl) ?_
  intro p e s m below meth c T0 hy hml hret hlk hnm W0
  refine o_aloadN W0 1 (hb hy d54_0) rfl rfl rfl ?_
  refine o_getF W0 (w180 hw) Via.refl (z0.ext W0.ox) 4 (hb hy d54_1) rfl ?_
  intro T1 W1
  refine o_ifY W1 11 (hb hy d54_4) (XT.i0_ge_t (by decide)) (by decide) rfl <| o_iconst W1 (v := 0) 12 (hb hy d54_11) rfl rfl ?_
  exact o_retI W1 hlk hret (hb hy d54_12) (by decide) (by decide) rfl
theorem rm63 (l : Launch) {Z a0} (hw : HW Z a0) (gO90 gO91 : Addr) (z0 : ClassId) (h0 : Heap) (O0 : Old Z Z.heap.size h0) (z1 : Fld Z Z.heap gO90 s1 "mag" "[I" (.ref gO91)) (VgO91 : Arv Z Z.heap gO91 z0 .int (0 : Int32) [] iZ) (z2 : Fld Z Z.heap gO90 s1 "signum" "I" iZ) (XgO90 : Exa Z Z.heap gO90 s1) :
    CtrN l Z mn50 jdk_2097_method_148_code 3 (some .int) [] (⟨1, 0, 0, 12⟩ : Room) #[(.ref gO90), iZ] h0 [] (fun v h => v = some iZ) := by
  refine CtrN.intro (L0 := #[vr gO90, vi 0, un]) (plainFor_of_name pn6) O0 (fun _ => rfl) ?_
  intro p e s m below meth c T0 hy hml hret hlk hnm W0
  refine o_iloadN W0 1 (hb hy d53_0) rfl rfl <| o_ifY W0 6 (hb hy d53_1) (XT.i0_ge_t (by decide)) (by decide) rfl <| o_iloadN W0 7 (hb hy d53_6) rfl rfl <| o_aloadN W0 8 (hb hy d53_7) rfl rfl rfl ?_
  refine o_getF W0 (w183 hw) Via.refl (z1.ext W0.ox) 11 (hb hy d53_8) rfl ?_
  intro T1 W1
  refine o_len W1 (VgO91.ext W1.ox) 12 (hb hy d53_11) rfl <| o_icmpN W1 15 (hb hy d53_12) (XT.ii_lt_f (by decide)) rfl <| o_aloadN W1 16 (hb hy d53_15) rfl rfl rfl ?_
  refine o_privateC W1 (w284 hw) (w285 hw) (w287 hw) (w286 hw) (w288 hw) (by decide) (XgO90.ext W1.ox) (w169 hw) (rm62 l hw gO90 h0 W1.old z2) 0 0 0 (by decide) (by rw [hml]; rfl) (lenOf pd9 rfl) [] rfl rfl 19 (hb hy d53_16) rfl rfl rfl all0 tri ?_
  intro v2 T2 h2 lo2 W2 K2 q2
  obtain rfl := q2.2.2
  show Gl _ _ _ _ _ _ _ _ [iZ]
  exact o_retI W2 hlk hret (hb hy d53_19) (by decide) (by decide) rfl
theorem rm64 (l : Launch) {Z a0} (hw : HW Z a0) (gO90 gO91 : Addr) (z0 : ClassId) (h0 : Heap) (O0 : Old Z Z.heap.size h0) (z1 : Fld Z Z.heap gO90 s1 "mag" "[I" (.ref gO91)) (VgO91 : Arv Z Z.heap gO91 z0 .int (0 : Int32) [] iZ) (z2 : Fld Z Z.heap gO90 s1 "signum" "I" iZ) (XgO90 : Exa Z Z.heap gO90 s1) :
    CtrN l Z mn52 jdk_2097_method_135_code 2 (some .int) [] (⟨2, 0, 0, 26⟩ : Room) #[(.ref gO90)] h0 [] (fun v h => v = some iZ) := by
  refine CtrN.intro (L0 := #[vr gO90, un]) (plainFor_of_name pn6) O0 (fun _ => rfl) ?_
  intro p e s m below meth c T0 hy hml hret hlk hnm W0
  refine o_iconst W0 (v := 0) 1 (hb hy d55_0) rfl rfl <| o_istoreN W0 (L' := #[vr gO90, vi 0]) 2 (hb hy d55_1) rfl rfl <| o_aloadN W0 3 (hb hy d55_2) rfl rfl rfl <| o_iconst W0 (v := 0) 4 (hb hy d55_3) rfl rfl ?_
  refine o_privateC W0 (w279 hw) (w280 hw) (w282 hw) (w281 hw) (w283 hw) (by decide) (XgO90.ext W0.ox) (w169 hw) (rm63 l hw gO90 gO91 z0 h0 W0.old z1 VgO91 z2 XgO90) 0 0 0 (by decide) (by rw [hml]; rfl) (lenOf pd36 rfl) [] rfl rfl 7 (hb hy d55_4) rfl rfl rfl all0 tri ?_
  intro v1 T1 h1 lo1 W1 K1 q1
  obtain rfl := q1.2.2
  show Gl _ _ _ _ _ _ _ _ [iZ]
  refine o_istoreN W1 (L' := #[vr gO90, vi 0]) 8 (hb hy d55_7) rfl rfl <| o_iloadN W1 9 (hb hy d55_8) rfl rfl ?_
  exact o_retI W1 hlk hret (hb hy d55_9) (by decide) (by decide) rfl
theorem rm65 (l : Launch) {Z a0} (hw : HW Z a0) (y1 : Int64) (h0 : Heap) (O0 : Old Z Z.heap.size h0) (hc1 : ¬ (y1 = (0 : Int64))) (hc2 : ¬ ((lcmpW ((0 : Int64) ^^^ y1) (0 : Int64)) < (0 : Int32))) :
    CtrN l Z mn53 jdk_29_method_49_code 6 (some .long) [] (⟨0, 0, 0, 0⟩ : Room) #[(.long 0), (.long y1)] h0 [] (fun v h => v = some (.long ((0 : Int64) / y1))) := by
  refine CtrN.intro (L0 := #[.val (.long 0), .second, .val (.long y1), .second, un, un]) (Jvm.Free.JP.mathPlain rfl (by decide +kernel)) O0 (fun _ => rfl) ?_
  intro p e s m below meth c T0 hy hml hret hlk hnm W0
  refine o_lloadN W0 1 (hb hy d57_0) rfl rfl <| o_lloadN W0 2 (hb hy d57_1) rfl rfl ?_
  refine o_ldiv W0 (v := ((0 : Int64) / y1)) 3 (hb hy d57_2) hc1 rfl rfl ?_
  refine o_lstore W0 (L' := #[.val (.long 0), .second, .val (.long y1), .second, .val (.long ((0 : Int64) / y1)), .second]) 5 (hb hy d57_3) rfl rfl <| o_lloadN W0 6 (hb hy d57_5) rfl rfl <| o_lloadN W0 7 (hb hy d57_6) rfl rfl ?_
  refine o_lxor W0 (v := ((0 : Int64) ^^^ y1)) 8 (hb hy d57_7) rfl rfl ?_
  refine o_lconst W0 (v := 0) 9 (hb hy d57_8) (by decide) rfl <| o_lcmp W0 (v := (lcmpW ((0 : Int64) ^^^ y1) (0 : Int64))) 10 (hb hy d57_9) rfl rfl <| o_ifY W0 27 (hb hy d57_10) (XT.i0_ge_t hc2) (by decide) rfl <| o_lload W0 29 (hb hy d57_27) rfl rfl ?_
  exact o_retJ W0 hlk hret (hb hy d57_29) (by decide) (by decide) rfl
theorem rm66 (l : Launch) {Z a0} (hw : HW Z a0) (y1 : Int64) (h0 : Heap) (O0 : Old Z Z.heap.size h0) (hc1 : ¬ ((lcmpW ((y1 ^^^ (y1 + (0 : Int64))) &&& ((0 : Int64) ^^^ (y1 + (0 : Int64)))) (0 : Int64)) < (0 : Int32))) :
    CtrN l Z mn54 jdk_29_method_25_code 6 (some .long) [] (⟨0, 0, 0, 0⟩ : Room) #[(.long y1), (.long 0)] h0 [] (fun v h => v = some (.long (y1 + (0 : Int64)))) := by
  refine CtrN.intro (L0 := #[.val (.long y1), .second, .val (.long 0), .second, un, un]) (Jvm.Free.JP.mathPlain rfl (by decide +kernel)) O0 (fun _ => rfl) ?_
  intro p e s m below meth c T0 hy hml hret hlk hnm W0
  refine o_lloadN W0 1 (hb hy d58_0) rfl rfl <| o_lloadN W0 2 (hb hy d58_1) rfl rfl <| o_ladd W0 (v := (y1 + (0 : Int64))) 3 (hb hy d58_2) rfl rfl <| o_lstore W0 (L' := #[.val (.long y1), .second, .val (.long 0), .second, .val (.long (y1 + (0 : Int64))), .second]) 5 (hb hy d58_3) rfl rfl <| o_lloadN W0 6 (hb hy d58_5) rfl rfl <| o_lload W0 8 (hb hy d58_6) rfl rfl ?_
  refine o_lxor W0 (v := (y1 ^^^ (y1 + (0 : Int64)))) 9 (hb hy d58_8) rfl rfl ?_
  refine o_lloadN W0 10 (hb hy d58_9) rfl rfl <| o_lload W0 12 (hb hy d58_10) rfl rfl ?_
  refine o_lxor W0 (v := ((0 : Int64) ^^^ (y1 + (0 : Int64)))) 13 (hb hy d58_12) rfl rfl ?_
  refine o_land W0 (v := ((y1 ^^^ (y1 + (0 : Int64))) &&& ((0 : Int64) ^^^ (y1 + (0 : Int64))))) 14 (hb hy d58_13) rfl rfl <| o_lconst W0 (v := 0) 15 (hb hy d58_14) (by decide) rfl <| o_lcmp W0 (v := (lcmpW ((y1 ^^^ (y1 + (0 : Int64))) &&& ((0 : Int64) ^^^ (y1 + (0 : Int64)))) (0 : Int64))) 16 (hb hy d58_15) rfl rfl <| o_ifY W0 29 (hb hy d58_16) (XT.i0_ge_t hc1) (by decide) rfl <| o_lload W0 31 (hb hy d58_29) rfl rfl ?_
  exact o_retJ W0 hlk hret (hb hy d58_31) (by decide) (by decide) rfl
theorem rm67 (l : Launch) {Z a0} (hw : HW Z a0) (y1 : Int64) (h0 : Heap) (O0 : Old Z Z.heap.size h0) (hc1 : ¬ (y1 = (0 : Int64))) (hc2 : ¬ ((lcmpW ((0 : Int64) ^^^ y1) (0 : Int64)) < (0 : Int32))) :
    CtrN l Z mn55 jdk_29_method_52_code 6 (some .long) [] (⟨0, 0, 0, 0⟩ : Room) #[(.long 0), (.long y1)] h0 [] (fun v h => v = some (.long ((0 : Int64) - (0 : Int64) / y1 * y1))) := by
  refine CtrN.intro (L0 := #[.val (.long 0), .second, .val (.long y1), .second, un, un]) (Jvm.Free.JP.mathPlain rfl (by decide +kernel)) O0 (fun _ => rfl) ?_
  intro p e s m below meth c T0 hy hml hret hlk hnm W0
  refine o_lloadN W0 1 (hb hy d59_0) rfl rfl <| o_lloadN W0 2 (hb hy d59_1) rfl rfl ?_
  refine o_lrem W0 (v := ((0 : Int64) - (0 : Int64) / y1 * y1)) 3 (hb hy d59_2) hc1 rfl rfl ?_
  refine o_lstore W0 (L' := #[.val (.long 0), .second, .val (.long y1), .second, .val (.long ((0 : Int64) - (0 : Int64) / y1 * y1)), .second]) 5 (hb hy d59_3) rfl rfl <| o_lloadN W0 6 (hb hy d59_5) rfl rfl <| o_lloadN W0 7 (hb hy d59_6) rfl rfl ?_
  refine o_lxor W0 (v := ((0 : Int64) ^^^ y1)) 8 (hb hy d59_7) rfl rfl ?_
  refine o_lconst W0 (v := 0) 9 (hb hy d59_8) (by decide) rfl <| o_lcmp W0 (v := (lcmpW ((0 : Int64) ^^^ y1) (0 : Int64))) 10 (hb hy d59_9) rfl rfl <| o_ifY W0 25 (hb hy d59_10) (XT.i0_ge_t hc2) (by decide) rfl <| o_lload W0 27 (hb hy d59_25) rfl rfl ?_
  exact o_retJ W0 hlk hret (hb hy d59_27) (by decide) (by decide) rfl
theorem rm68 (l : Launch) {Z a0} (hw : HW Z a0) (a1 : Addr) (y1 : Int64) (h0 : Heap) (O0 : Old Z Z.heap.size h0) (z0 : Exa Z h0 a1 s2) (z1 : Fld Z h0 a1 s2 "seconds" "J" (.long 0)) (z2 : Z.heap.size ≤ a1) (z3 : Fld Z h0 a1 s2 "nanos" "I" iZ) :
    CtrN l Z mn56 jdk_2316_method_17_code 4 none [] (⟨1, 0, 0, 12⟩ : Room) #[(.ref a1), (.long y1), iZ] h0 [a1] (fun v h => Fld Z h a1 s2 "seconds" "J" (.long y1) ∧ Fld Z h a1 s2 "nanos" "I" iZ ∧ v = none) := by
  refine CtrN.intro (L0 := #[vr a1, .val (.long y1), .second, vi 0]) (plainFor_of_name pn1) O0 (fun _ => rfl) ?_
  intro p e s m below meth c T0 hy hml hret hlk hnm W0
  refine o_aloadN W0 1 (hb hy d61_0) rfl rfl rfl ?_
  refine o_initO W0 (w317 hw) (w7 hw) (w8 hw) (by rw [hml]; rfl) 4 (hb hy d61_1) rfl (by decide) 0 (by exact Nat.le_of_eq rfl) (by decide) ?_
  intro T1 W1
  refine o_aloadN W1 5 (hb hy d61_4) rfl rfl rfl <| o_lloadN W1 6 (hb hy d61_5) rfl rfl ?_
  refine o_putF W1 (w38 hw) Via.refl z1 z0 (Or.inr ⟨(w39 hw), rfl, hnm⟩) (w312 hw) (ty := .long) (v' := (.long y1)) (by decide) rfl rfl z2 m0 tri 9 (hb hy d61_6) rfl ?_
  intro T2 h2 lo2 W2 R2
  have F2 := z1.same R2
  refine o_aloadN W2 10 (hb hy d61_9) rfl rfl rfl <| o_iloadN W2 11 (hb hy d61_10) rfl rfl ?_
  have c3 := (z0.wr R2)
  have c4 := (z3.other R2 (Or.inr (slot_ne (Or.inr (w62 hw)) (Or.inr (w39 hw)) (by decide) (t := .int) (t' := .long) (by decide) (by decide))))
  refine o_putF W2 (w61 hw) Via.refl c4 c3 (Or.inr ⟨(w62 hw), rfl, hnm⟩) (w312 hw) (ty := .int) (v' := iZ) (by decide) rfl rfl z2 m0 tri 14 (hb hy d61_11) rfl ?_
  intro T5 h5 lo5 W5 R5
  have F5 := c4.same R5
  have c6 := (F2.other R5 (Or.inr (slot_ne (Or.inr (w39 hw)) (Or.inr (w62 hw)) (by decide) (t := .long) (t' := .int) (by decide) (by decide))))
  have c7 := (c3.wr R5)
  exact o_ret0 W5 hlk hret (hb hy d61_14) (by decide) (by decide) ⟨c6, F5, rfl⟩
theorem rm69 (l : Launch) {Z a0} (hw : HW Z a0) (y1 : Int64) (h0 : Heap) (O0 : Old Z Z.heap.size h0) (hc1 : ¬ ((lcmpW (y1 ||| (0 : Int64)) (0 : Int64)) = (0 : Int32))) :
    CtrN l Z mn57 jdk_2316_method_16_code 3 (some (.object s2)) [] (⟨2, 1, 2, 28⟩ : Room) #[(.long y1), iZ] h0 [] (fun v h => ∃ r1 : Addr, h0.size ≤ r1 ∧ Exa Z h r1 s2 ∧ Fld Z h r1 s2 "seconds" "J" (.long y1) ∧ Fld Z h r1 s2 "nanos" "I" iZ ∧ v = some (.ref r1)) := by
  refine CtrN.intro (L0 := #[.val (.long y1), .second, vi 0]) (plainFor_of_name pn1) O0 (fun _ => rfl) ?_
  intro p e s m below meth c T0 hy hml hret hlk hnm W0
  refine o_lloadN W0 1 (hb hy d60_0) rfl rfl <| o_iloadN W0 2 (hb hy d60_1) rfl rfl <| o_i2l W0 (v := 0) 3 (hb hy d60_2) (by decide) rfl <| o_lor W0 (v := (y1 ||| (0 : Int64))) 4 (hb hy d60_3) rfl rfl <| o_lconst W0 (v := 0) 5 (hb hy d60_4) (by decide) rfl <| o_lcmp W0 (v := (lcmpW (y1 ||| (0 : Int64)) (0 : Int64))) 6 (hb hy d60_5) rfl rfl ?_
  refine o_ifY W0 13 (hb hy d60_6) (XT.i0_ne_t hc1) (by decide) rfl ?_
  refine o_new W0 (w311 hw) (w312 hw) (w29 hw) tri 16 (hb hy d60_13) rfl (cells' := 1) (slots' := 2) rfl rfl (by decide) (by decide) ?_
  intro b2 T2 h2 W2 E2 ge2 gz2 gb2 A2 D2
  have Fb2_seconds : Fld Z h2 b2 s2 "seconds" "J" (.long 0) := D2 (Or.inr (w39 hw)) (ty := .long) (by decide)
  have Fb2_nanos : Fld Z h2 b2 s2 "nanos" "I" iZ := D2 (Or.inr (w62 hw)) (ty := .int) (by decide)
  refine o_dup W2 17 (hb hy d60_16) rfl rfl <| o_lloadN W2 18 (hb hy d60_17) rfl rfl <| o_iloadN W2 19 (hb hy d60_18) rfl rfl ?_
  refine o_specialC W2 rfl (w313 hw) (w314 hw) (w316 hw) (by decide) (w29 hw) (rm68 l hw b2 y1 h2 W2.old A2 Fb2_seconds gz2 Fb2_nanos) 1 1 2 (by decide) (by rw [hml]; rfl) (lenOf pd37 rfl) [(.ref b2)] rfl rfl 22 (hb hy d60_19) rfl rfl rfl (allS ⟨gz2, (Or.inr gb2)⟩ all0) tri ?_
  intro v3 T3 h3 lo3 W3 K3 q3
  obtain ⟨P3_0, P3_1, rfl⟩ := q3.2.2
  show Gl _ _ _ _ _ _ _ _ [(.ref b2)]
  have c4 := (A2.keep K3)
  exact o_retA W3 hlk (v := (.ref b2)) hret rfl rfl (hb hy d60_22) (by decide) (by decide) ⟨b2, gb2, c4, P3_0, P3_1, rfl⟩
theorem rm70 (l : Launch) {Z a0} (hw : HW Z a0) (y1 : Int64) (h0 : Heap) (O0 : Old Z Z.heap.size h0) (hc2 : ¬ ((lcmpW ((y1 ^^^ (y1 + (0 : Int64))) &&& ((0 : Int64) ^^^ (y1 + (0 : Int64)))) (0 : Int64)) < (0 : Int32))) (hc5 : ¬ ((lcmpW ((y1 + (0 : Int64)) ||| (0 : Int64)) (0 : Int64)) = (0 : Int32))) :
    CtrN l Z mn58 jdk_2316_method_5_code 7 (some (.object s2)) [] (⟨3, 1, 2, 42⟩ : Room) #[(.long y1), (.long 0)] h0 [] (fun v h => ∃ r1 : Addr, h0.size ≤ r1 ∧ Exa Z h r1 s2 ∧ Fld Z h r1 s2 "seconds" "J" (.long (y1 + (0 : Int64))) ∧ Fld Z h r1 s2 "nanos" "I" iZ ∧ v = some (.ref r1)) := by
  refine CtrN.intro (L0 := #[.val (.long y1), .second, .val (.long 0), .second, un, un, un]) (plainFor_of_name pn1) O0 (fun _ => rfl) ?_
  intro p e s m below meth c T0 hy hml hret hlk hnm W0
  refine o_lloadN W0 1 (hb hy d56_0) rfl rfl <| o_lloadN W0 2 (hb hy d56_1) rfl rfl <| o_ldcJ W0 (w298 hw) 5 (hb hy d56_2) rfl ?_
  refine o_staticC W0 (w299 hw) (w300 hw) (w23 hw) (w301 hw) (by decide) (rm65 l hw (1000000000 : Int64) h0 W0.old (by decide) (by decide)) 2 0 0 (by decide) (by rw [hml]; rfl) (lenOf pd15 rfl) [(.long y1)] rfl rfl 8 (hb hy d56_5) rfl rfl rfl all0 tri ?_
  intro v1 T1 h1 lo1 W1 K1 q1
  obtain rfl := q1.2.2
  rw [show ((0 : Int64) / (1000000000 : Int64)) = (0 : Int64) from by decide]
  show Gl _ _ _ _ _ _ _ _ [(.long 0), (.long y1)]
  refine o_staticC W1 (w302 hw) (w303 hw) (w23 hw) (w304 hw) (by decide) (rm66 l hw y1 h1 W1.old hc2) 0 0 0 (by decide) (by rw [hml]; rfl) (lenOf pd15 rfl) [] rfl rfl 11 (hb hy d56_8) rfl rfl rfl all0 tri ?_
  intro v3 T3 h3 lo3 W3 K3 q3
  obtain rfl := q3.2.2
  show Gl _ _ _ _ _ _ _ _ [(.long (y1 + (0 : Int64)))]
  refine o_lstore W3 (L' := #[.val (.long y1), .second, .val (.long 0), .second, .val (.long (y1 + (0 : Int64))), .second, un]) 13 (hb hy d56_11) rfl rfl <| o_lloadN W3 14 (hb hy d56_13) rfl rfl <| o_ldcJ W3 (w298 hw) 17 (hb hy d56_14) rfl ?_
  refine o_staticC W3 (w305 hw) (w306 hw) (w23 hw) (w307 hw) (by decide) (rm67 l hw (1000000000 : Int64) h3 W3.old (by decide) (by decide)) 0 0 0 (by decide) (by rw [hml]; rfl) (lenOf pd15 rfl) [] rfl rfl 20 (hb hy d56_17) rfl rfl rfl all0 tri ?_
  intro v4 T4 h4 lo4 W4 K4 q4
  obtain rfl := q4.2.2
  rw [show ((0 : Int64) - (0 : Int64) / (1000000000 : Int64) * (1000000000 : Int64)) = (0 : Int64) from by decide]
  show Gl _ _ _ _ _ _ _ _ [(.long 0)]
  refine o_l2i W4 (v := 0) 21 (hb hy d56_20) (by decide) rfl <| o_istore W4 (L' := #[.val (.long y1), .second, .val (.long 0), .second, .val (.long (y1 + (0 : Int64))), .second, vi 0]) 23 (hb hy d56_21) rfl rfl <| o_lload W4 25 (hb hy d56_23) rfl rfl <| o_iload W4 27 (hb hy d56_25) rfl rfl ?_
  refine o_staticC W4 (w308 hw) (w309 hw) (w29 hw) (w310 hw) (by decide) (rm69 l hw (y1 + (0 : Int64)) h4 W4.old hc5) 0 1 2 (by decide) (by rw [hml]; rfl) (lenOf pd38 rfl) [] rfl rfl 30 (hb hy d56_27) rfl rfl rfl all0 tri ?_
  intro v6 T6 h6 lo6 W6 K6 q6
  obtain ⟨r1_6, P6_0, P6_1, P6_2, P6_3, rfl⟩ := q6.2.2
  show Gl _ _ _ _ _ _ _ _ [(.ref r1_6)]
  exact o_retA W6 hlk (v := (.ref r1_6)) hret rfl rfl (hb hy d56_30) (by decide) (by decide) ⟨r1_6, (Nat.le_trans W4.keep.1 P6_0), P6_1, P6_2, P6_3, rfl⟩
theorem rm71 (l : Launch) {Z a0} (hw : HW Z a0) (gO88 gO89 gO90 gO91 : Addr) (z0 z1 : ClassId) (a1 : Addr) (y1 : Int64) (h0 : Heap) (O0 : Old Z Z.heap.size h0) (z2 : Exa Z h0 a1 s0) (z3 : Fld Z h0 a1 s0 "scale" "I" (.int 9)) (z4 : Fld Z h0 a1 s0 "intVal" s5 .null) (z5 : Fld Z h0 a1 s0 s4 "J" (.long y1)) (hc2 : ¬ ((lcmpW y1 (0 : Int64)) = (0 : Int32))) (hc3 : (0 : Int32) < (lcmpW y1 (0 : Int64))) (hc4 : (0 : Int32) < (lcmpW y1 (16 : Int64))) (hc5 : ¬ ((lcmpW y1 (0 : Int64)) < (0 : Int32))) (hc6 : (((y1.toUInt64 >>> ((32 : Int32) &&& 0x3f).toInt64.toUInt64).toInt64).toInt32) = (0 : Int32)) (z6 : Sta Z Z.heap s2 s15 s5 (.ref gO88)) (z7 : Fld Z Z.heap gO88 s1 "mag" "[I" (.ref gO89)) (VgO89 : Arv Z Z.heap gO89 z0 .int (1 : Int32) [(.int 1000000000)] iZ) (hc9 : ¬ (((y1.toInt32) + (-2147483648 : Int32)) < (-1147483648 : Int32))) (hc10 : (-1147483648 : Int32) < ((y1.toInt32) + (-2147483648 : Int32))) (hc11 : ¬ ((((((y1.toInt32).toInt64) &&& (4294967295 : Int64)) / (((1000000000 : Int32).toInt64) &&& (4294967295 : Int64))).toInt32) = (0 : Int32))) (hc12 : (((((y1.toInt32).toInt64) &&& (4294967295 : Int64)) - (((((((y1.toInt32).toInt64) &&& (4294967295 : Int64)) / (((1000000000 : Int32).toInt64) &&& (4294967295 : Int64))).toInt32).toInt64) * (((1000000000 : Int32).toInt64) &&& (4294967295 : Int64)))).toInt32) = (0 : Int32)) (z8 : Fld Z Z.heap gO88 s1 "signum" "I" (.int 1)) (z9 : Sta Z Z.heap s1 "ZERO" s5 (.ref gO90)) (XgO90 : Exa Z Z.heap gO90 s1) (hc14 : (0 : Int32) < (((((y1.toInt32).toInt64) &&& (4294967295 : Int64)) / (((1000000000 : Int32).toInt64) &&& (4294967295 : Int64))).toInt32)) (hc15 : (((((y1.toInt32).toInt64) &&& (4294967295 : Int64)) / (((1000000000 : Int32).toInt64) &&& (4294967295 : Int64))).toInt32) < (65536 : Int32)) (hc16 : (((((y1.toInt32).toInt64) &&& (4294967295 : Int64)) / (((1000000000 : Int32).toInt64) &&& (4294967295 : Int64))).toInt32) < (256 : Int32)) (hc17 : (((((y1.toInt32).toInt64) &&& (4294967295 : Int64)) / (((1000000000 : Int32).toInt64) &&& (4294967295 : Int64))).toInt32) < (16 : Int32)) (hc18 : (((((y1.toInt32).toInt64) &&& (4294967295 : Int64)) / (((1000000000 : Int32).toInt64) &&& (4294967295 : Int64))).toInt32) < (4 : Int32)) (hc20 : ¬ ((63 : Int32) < ((0 : Int32) + ((32 : Int32) - ((31 : Int32) - (((((((y1.toInt32).toInt64) &&& (4294967295 : Int64)) / (((1000000000 : Int32).toInt64) &&& (4294967295 : Int64))).toInt32).toUInt32 >>> ((1 : Int32) &&& 31).toUInt32).toInt32)))))) (z10 : Fld Z Z.heap gO90 s1 "mag" "[I" (.ref gO91)) (VgO91 : Arv Z Z.heap gO91 z1 .int (0 : Int32) [] iZ) (z11 : Fld Z Z.heap gO90 s1 "signum" "I" iZ) (hc27 : ¬ ((lcmpW ((((0 : Int64) + (((((((y1.toInt32).toInt64) &&& (4294967295 : Int64)) / (((1000000000 : Int32).toInt64) &&& (4294967295 : Int64))).toInt32).toInt64) &&& (4294967295 : Int64))) ^^^ (((0 : Int64) + (((((((y1.toInt32).toInt64) &&& (4294967295 : Int64)) / (((1000000000 : Int32).toInt64) &&& (4294967295 : Int64))).toInt32).toInt64) &&& (4294967295 : Int64))) + (0 : Int64))) &&& ((0 : Int64) ^^^ (((0 : Int64) + (((((((y1.toInt32).toInt64) &&& (4294967295 : Int64)) / (((1000000000 : Int32).toInt64) &&& (4294967295 : Int64))).toInt32).toInt64) &&& (4294967295 : Int64))) + (0 : Int64)))) (0 : Int64)) < (0 : Int32))) (hc28 : ¬ ((lcmpW ((((0 : Int64) + (((((((y1.toInt32).toInt64) &&& (4294967295 : Int64)) / (((1000000000 : Int32).toInt64) &&& (4294967295 : Int64))).toInt32).toInt64) &&& (4294967295 : Int64))) + (0 : Int64)) ||| (0 : Int64)) (0 : Int64)) = (0 : Int32))) :
    CtrN l Z mn59 jdk_2316_method_48_code 3 (some (.object s2)) [] (⟨6, 12, 36, 90⟩ : Room) #[(.ref a1)] h0 [] (fun v h => ∃ r1 : Addr, h0.size ≤ r1 ∧ Exa Z h r1 s2 ∧ Fld Z h r1 s2 "seconds" "J" (.long (((0 : Int64) + (((((((y1.toInt32).toInt64) &&& (4294967295 : Int64)) / (((1000000000 : Int32).toInt64) &&& (4294967295 : Int64))).toInt32).toInt64) &&& (4294967295 : Int64))) + (0 : Int64))) ∧ Fld Z h r1 s2 "nanos" "I" iZ ∧ v = some (.ref r1)) := by
  refine CtrN.intro (L0 := #[vr a1, un, un]) (plainFor_of_name pn1) O0 (fun _ => rfl) ?_
  intro p e s m below meth c T0 hy hml hret hlk hnm W0
  refine o_aloadN W0 1 (hb hy d30_0) rfl rfl rfl <| o_bipush W0 (v := 9) 3 (hb hy d30_1) (by decide) rfl ?_
  refine o_virtualC W0 (w147 hw) (w148 hw) (o_nf W0 rfl (w150 hw)) (w150 hw) (w149 hw) (by decide) z2 (w151 hw) (w70 hw) (rm35 l hw a1 y1 h0 W0.old z3 z2 z4 z5) 0 1 5 (by decide) (by rw [hml]; rfl) (lenOf pd12 rfl) [] rfl rfl 6 (hb hy d30_3) rfl rfl rfl all0 tri ?_
  intro v1 T1 h1 lo1 W1 K1 q1
  obtain ⟨r1_1, P1_0, P1_1, P1_2, P1_3, P1_4, P1_5, rfl⟩ := q1.2.2
  show Gl _ _ _ _ _ _ _ _ [(.ref r1_1)]
  refine o_virtualC W1 (w152 hw) (w153 hw) (o_nf W1 rfl (w155 hw)) (w155 hw) (w154 hw) (by decide) P1_1 (w156 hw) (w70 hw) (rm40 l hw r1_1 y1 h1 W1.old P1_1 P1_3 P1_5 P1_2 hc2 hc3 hc4 hc5 hc6) 0 3 12 (by decide) (by rw [hml]; rfl) (lenOf pd26 rfl) [] rfl rfl 9 (hb hy d30_6) rfl rfl rfl all0 tri ?_
  intro v7 T7 h7 lo7 W7 K7 q7
  obtain ⟨r1_7, r2_7, r3_7, P7_0, P7_1, P7_2, P7_3, P7_4, P7_5, P7_6, rfl⟩ := q7.2.2
  show Gl _ _ _ _ _ _ _ _ [(.ref r1_7)]
  refine o_astoreN W7 (L' := #[vr a1, vr r1_7, un]) 10 (hb hy d30_9) rfl rfl rfl <| o_aloadN W7 11 (hb hy d30_10) rfl rfl rfl ?_
  refine o_getS W7 (w185 hw) Via.refl (z6.ext W7.ox) 14 (hb hy d30_11) rfl ?_
  intro T8 W8
  refine o_virtualC W8 (w186 hw) (w187 hw) (o_nf W8 rfl (w189 hw)) (w189 hw) (w188 hw) (by decide) P7_2 (w190 hw) (w169 hw) (rm54 l hw gO88 gO89 gO90 z0 r1_7 r2_7 r3_7 (y1.toInt32) h7 W8.old z7 VgO89 P7_2 P7_4 P7_6 hc9 hc10 hc11 hc12 P7_3 z8 z9 XgO90) 0 11 34 (by decide) (by rw [hml]; rfl) (lenOf pd35 rfl) [] rfl rfl 17 (hb hy d30_14) rfl rfl rfl all0 tri ?_
  intro v13 T13 h13 lo13 W13 K13 q13
  obtain ⟨r1_13, r2_13, r3_13, r4_13, r5_13, P13_0, P13_1, P13_2, P13_3, P13_4, P13_5, P13_6, P13_7, P13_8, P13_9, rfl⟩ := q13.2.2
  show Gl _ _ _ _ _ _ _ _ [(.ref r1_13)]
  refine o_astoreN W13 (L' := #[vr a1, vr r1_7, vr r1_13]) 18 (hb hy d30_17) rfl rfl rfl <| o_aloadN W13 19 (hb hy d30_18) rfl rfl rfl <| o_iconst W13 (v := 0) 20 (hb hy d30_19) rfl rfl ?_
  refine o_aaload W13 P13_3 rfl (v := (.ref r2_13)) (i := 0) (by decide) (by decide) (by decide) rfl 21 (hb hy d30_20) rfl ?_
  refine o_virtualC W13 (w259 hw) (w260 hw) (o_nf W13 rfl (w262 hw)) (w262 hw) (w261 hw) (by decide) P13_5 (w263 hw) (w169 hw) (rm57 l hw r2_13 r3_13 r5_13 (((((y1.toInt32).toInt64) &&& (4294967295 : Int64)) / (((1000000000 : Int32).toInt64) &&& (4294967295 : Int64))).toInt32) h13 W13.old P13_8 P13_7 P13_9 hc14 hc15 hc16 hc17 hc18 P13_6 P13_5 (Nat.le_trans W8.zs P13_1)) 0 11 34 (by decide) (by rw [hml]; rfl) (lenOf pd9 rfl) [] rfl rfl 24 (hb hy d30_21) rfl rfl rfl (allS ⟨(Nat.le_trans W8.zs P13_1), (Or.inr (Nat.le_trans W8.keep.1 P13_1))⟩ all0) tri ?_
  intro v19 T19 h19 lo19 W19 K19 q19
  obtain ⟨P19_0, P19_1, P19_2, rfl⟩ := q19.2.2
  show Gl _ _ _ _ _ _ _ _ [(.int ((0 : Int32) + ((32 : Int32) - ((31 : Int32) - (((((((y1.toInt32).toInt64) &&& (4294967295 : Int64)) / (((1000000000 : Int32).toInt64) &&& (4294967295 : Int64))).toInt32).toUInt32 >>> ((1 : Int32) &&& 31).toUInt32).toInt32)))))]
  refine o_bipush W19 (v := 63) 26 (hb hy d30_24) (by decide) rfl <| o_icmpY W19 57 (hb hy d30_26) (XT.ii_le_t hc20) (by decide) rfl <| o_aloadN W19 58 (hb hy d30_57) rfl rfl rfl <| o_iconst W19 (v := 0) 59 (hb hy d30_58) rfl rfl ?_
  have c21 := (P13_5.keep K19)
  have c22 := (P13_3.keep K19 (ninS (Ne.symm (Exa.neArv P13_5 P13_3 (w173 hw))) nin0))
  refine o_aaload W19 c22 rfl (v := (.ref r2_13)) (i := 0) (by decide) (by decide) (by decide) rfl 60 (hb hy d30_59) rfl ?_
  have c23 := (P13_9.keep K19 (ninS (Ne.symm (Exa.neArv P13_5 P13_9 (w173 hw))) nin0))
  refine o_virtualC W19 (w274 hw) (w275 hw) (o_nf W19 rfl (w277 hw)) (w277 hw) (w276 hw) (by decide) c21 (w278 hw) (w169 hw) (rm61 l hw r2_13 r3_13 r5_13 (((((y1.toInt32).toInt64) &&& (4294967295 : Int64)) / (((1000000000 : Int32).toInt64) &&& (4294967295 : Int64))).toInt32) h19 W19.old c21 P19_1 c23 P19_2) 0 11 34 (by decide) (by rw [hml]; rfl) (lenOf pd7 rfl) [] rfl rfl 63 (hb hy d30_60) rfl rfl rfl all0 tri ?_
  intro v24 T24 h24 lo24 W24 K24 q24
  obtain rfl := q24.2.2
  show Gl _ _ _ _ _ _ _ _ [(.long ((0 : Int64) + (((((((y1.toInt32).toInt64) &&& (4294967295 : Int64)) / (((1000000000 : Int32).toInt64) &&& (4294967295 : Int64))).toInt32).toInt64) &&& (4294967295 : Int64))))]
  refine o_aloadN W24 64 (hb hy d30_63) rfl rfl rfl <| o_iconst W24 (v := 1) 65 (hb hy d30_64) rfl rfl ?_
  have c25 := (c22.keep K24 nin0)
  refine o_aaload W24 c25 rfl (v := (.ref gO90)) (i := 1) (by decide) (by decide) (by decide) rfl 66 (hb hy d30_65) rfl ?_
  refine o_virtualC W24 (w290 hw) (w291 hw) (o_nf W24 rfl (w293 hw)) (w293 hw) (w292 hw) (by decide) (XgO90.ext W24.ox) (w294 hw) (w169 hw) (rm64 l hw gO90 gO91 z1 h24 W24.old z10 VgO91 z11 XgO90) 2 11 34 (by decide) (by rw [hml]; rfl) (lenOf pd9 rfl) [(.long ((0 : Int64) + (((((((y1.toInt32).toInt64) &&& (4294967295 : Int64)) / (((1000000000 : Int32).toInt64) &&& (4294967295 : Int64))).toInt32).toInt64) &&& (4294967295 : Int64))))] rfl rfl 69 (hb hy d30_66) rfl rfl rfl all0 tri ?_
  intro v26 T26 h26 lo26 W26 K26 q26
  obtain rfl := q26.2.2
  show Gl _ _ _ _ _ _ _ _ [iZ, (.long ((0 : Int64) + (((((((y1.toInt32).toInt64) &&& (4294967295 : Int64)) / (((1000000000 : Int32).toInt64) &&& (4294967295 : Int64))).toInt32).toInt64) &&& (4294967295 : Int64))))]
  refine o_i2l W26 (v := 0) 70 (hb hy d30_69) (by decide) rfl ?_
  refine o_staticC W26 (w295 hw) (w296 hw) (w29 hw) (w297 hw) (by decide) (rm70 l hw ((0 : Int64) + (((((((y1.toInt32).toInt64) &&& (4294967295 : Int64)) / (((1000000000 : Int32).toInt64) &&& (4294967295 : Int64))).toInt32).toInt64) &&& (4294967295 : Int64))) h26 W26.old hc27 hc28) 0 12 36 (by decide) (by rw [hml]; rfl) (lenOf pd39 rfl) [] rfl rfl 73 (hb hy d30_70) rfl rfl rfl all0 tri ?_
  intro v29 T29 h29 lo29 W29 K29 q29
  obtain ⟨r1_29, P29_0, P29_1, P29_2, P29_3, rfl⟩ := q29.2.2
  show Gl _ _ _ _ _ _ _ _ [(.ref r1_29)]
  exact o_retA W29 hlk (v := (.ref r1_29)) hret rfl rfl (hb hy d30_73) (by decide) (by decide) ⟨r1_29, (Nat.le_trans W26.keep.1 P29_0), P29_1, P29_2, P29_3, rfl⟩
theorem rm72 (l : Launch) {Z a0} (hw : HW Z a0) (gO1 gO3 gO4 gO7 gO10 gO13 gO16 gO19 gO22 gO25 gO28 gO31 gO34 gO37 gO38 gO41 gO44 gO47 gO50 gO53 gO56 gO59 gO62 gO65 gO68 gO71 gO74 gO77 gO80 gO83 gO86 gO87 gO88 gO89 gO90 gO91 : Addr) (z0 z1 z2 z3 z4 z5 : ClassId) (h0 : Heap) (O0 : Old Z Z.heap.size h0) (z6 : Fld Z Z.heap gO1 s2 "seconds" "J" (.long 1)) (z7 : Sta Z Z.heap s0 s12 s7 (.ref gO3)) (VgO3 : Arv Z Z.heap gO3 z0 (.object s0) (11 : Int32) [(.ref gO4), (.ref gO7), (.ref gO10), (.ref gO13), (.ref gO16), (.ref gO19), (.ref gO22), (.ref gO25), (.ref gO28), (.ref gO31), (.ref gO34)] .null) (z8 : Fld Z Z.heap gO1 s2 "nanos" "I" iZ) (z9 : Sta Z Z.heap s0 s16 s7 (.ref gO37)) (VgO37 : Arv Z Z.heap gO37 z1 (.object s0) (16 : Int32) [(.ref gO38), (.ref gO41), (.ref gO44), (.ref gO47), (.ref gO50), (.ref gO53), (.ref gO56), (.ref gO59), (.ref gO62), (.ref gO65), (.ref gO68), (.ref gO71), (.ref gO74), (.ref gO77), (.ref gO80), (.ref gO83)] .null) (z10 : Fld Z Z.heap gO7 s0 s4 "J" (.long 1)) (z11 : Fld Z Z.heap gO65 s0 s4 "J" (.long 0)) (z12 : Fld Z Z.heap gO7 s0 "scale" "I" iZ) (z13 : Fld Z Z.heap gO65 s0 "scale" "I" (.int 9)) (z14 : Sta Z Z.heap s0 s13 "[J" (.ref gO86)) (z15 : Sta Z Z.heap s0 s14 "[J" (.ref gO87)) (VgO86 : Arv Z Z.heap gO86 z2 .long (19 : Int32) [(.long 1), (.long 10), (.long 100), (.long 1000), (.long 10000), (.long 100000), (.long 1000000), (.long 10000000), (.long 100000000), (.long 1000000000), (.long 10000000000), (.long 100000000000), (.long 1000000000000), (.long 10000000000000), (.long 100000000000000), (.long 1000000000000000), (.long 10000000000000000), (.long 100000000000000000), (.long 1000000000000000000)] (.long 0)) (VgO87 : Arv Z Z.heap gO87 z3 .long (19 : Int32) [(.long 9223372036854775807), (.long 922337203685477580), (.long 92233720368547758), (.long 9223372036854775), (.long 922337203685477), (.long 92233720368547), (.long 9223372036854), (.long 922337203685), (.long 92233720368), (.long 9223372036), (.long 922337203), (.long 92233720), (.long 9223372), (.long 922337), (.long 92233), (.long 9223), (.long 922), (.long 92), (.long 9)] (.long 0)) (XgO7 : Exa Z Z.heap gO7 s0) (XgO1 : Exa Z Z.heap gO1 s2) (z16 : Fld Z Z.heap gO10 s0 "scale" "I" iZ) (z17 : Fld Z Z.heap gO10 s0 s4 "J" (.long 2)) (z18 : Sta Z Z.heap s2 s15 s5 (.ref gO88)) (z19 : Fld Z Z.heap gO88 s1 "mag" "[I" (.ref gO89)) (VgO89 : Arv Z Z.heap gO89 z4 .int (1 : Int32) [(.int 1000000000)] iZ) (z20 : Fld Z Z.heap gO88 s1 "signum" "I" (.int 1)) (z21 : Sta Z Z.heap s1 "ZERO" s5 (.ref gO90)) (XgO90 : Exa Z Z.heap gO90 s1) (z22 : Fld Z Z.heap gO90 s1 "mag" "[I" (.ref gO91)) (VgO91 : Arv Z Z.heap gO91 z5 .int (0 : Int32) [] iZ) (z23 : Fld Z Z.heap gO90 s1 "signum" "I" iZ) :
    CtrN l Z mn2 jdk_2316_method_44_code 3 (some (.object s2)) [] (⟨8, 14, 46, 122⟩ : Room) #[(.ref gO1), (.long 2)] h0 [] (fun v h => ∃ r1 : Addr, h0.size ≤ r1 ∧ Exa Z h r1 s2 ∧ Fld Z h r1 s2 "seconds" "J" (.long 2) ∧ Fld Z h r1 s2 "nanos" "I" iZ ∧ v = some (.ref r1)) := by
  refine CtrN.intro (L0 := #[vr gO1, .val (.long 2), .second]) (plainFor_of_name pn1) O0 (fun _ => rfl) ?_
  intro p e s m below meth c T0 hy hml hret hlk hnm W0
  refine o_lloadN W0 1 (hb hy d6_0) rfl rfl <| o_lconst W0 (v := 0) 2 (hb hy d6_1) (by decide) rfl <| o_lcmp W0 (v := 1) 3 (hb hy d6_2) (by decide) rfl <| o_ifY W0 10 (hb hy d6_3) (XT.i0_ne_t (by decide)) (by decide) rfl <| o_lloadN W0 11 (hb hy d6_10) rfl rfl <| o_lconst W0 (v := 1) 12 (hb hy d6_11) (by decide) rfl ?_
  refine o_lcmp W0 (v := 1) 13 (hb hy d6_12) (by decide) rfl <| o_ifY W0 18 (hb hy d6_13) (XT.i0_ne_t (by decide)) (by decide) rfl <| o_aloadN W0 19 (hb hy d6_18) rfl rfl rfl ?_
  refine o_privateC W0 (w63 hw) (w64 hw) (w66 hw) (w65 hw) (w67 hw) (by decide) (XgO1.ext W0.ox) (w29 hw) (rm25 l hw gO1 gO3 gO4 gO7 gO10 gO13 gO16 gO19 gO22 gO25 gO28 gO31 gO34 gO37 gO38 gO41 gO44 gO47 gO50 gO53 gO56 gO59 gO62 gO65 gO68 gO71 gO74 gO77 gO80 gO83 gO86 gO87 z0 z1 z2 z3 h0 W0.old z6 z7 VgO3 z8 z9 VgO37 z10 z11 z12 z13 z14 z15 VgO86 VgO87 XgO7) 0 1 5 (by decide) (by rw [hml]; rfl) (lenOf pd20 rfl) [] rfl rfl 22 (hb hy d6_19) rfl rfl rfl all0 tri ?_
  intro v1 T1 h1 lo1 W1 K1 q1
  obtain ⟨r1_1, P1_0, P1_1, P1_2, P1_3, P1_4, P1_5, rfl⟩ := q1.2.2
  show Gl _ _ _ _ _ _ _ _ [(.ref r1_1)]
  refine o_lloadN W1 23 (hb hy d6_22) rfl rfl ?_
  refine o_staticC W1 (w68 hw) (w69 hw) (w70 hw) (w71 hw) (by decide) (rm26 l hw gO3 gO4 gO7 gO10 gO13 gO16 gO19 gO22 gO25 gO28 gO31 gO34 z0 h1 W1.old z7 VgO3) 1 1 5 (by decide) (by rw [hml]; rfl) (lenOf pd11 rfl) [(.ref r1_1)] rfl rfl 26 (hb hy d6_23) rfl rfl rfl all0 tri ?_
  intro v2 T2 h2 lo2 W2 K2 q2
  obtain rfl := q2.2.2
  show Gl _ _ _ _ _ _ _ _ [(.ref gO10), (.ref r1_1)]
  have c3 := (P1_3.keep K2 nin0)
  have c4 := (P1_2.keep K2 nin0)
  have c5 := (P1_1.keep K2)
  refine o_virtualC W2 (w125 hw) (w126 hw) (o_nf W2 rfl (w128 hw)) (w128 hw) (w127 hw) (by decide) c5 (w129 hw) (w70 hw) (rm32 l hw gO10 r1_1 (1000000000 : Int64) h2 W2.old c3 z16 c5 c4 (by decide) z17 (by decide) (by decide) (by decide) (by decide)) 0 2 10 (by decide) (by rw [hml]; rfl) (lenOf pd19 rfl) [] rfl rfl 29 (hb hy d6_26) rfl rfl rfl all0 tri ?_
  intro v6 T6 h6 lo6 W6 K6 q6
  obtain ⟨r1_6, P6_0, P6_1, P6_2, P6_3, P6_4, P6_5, rfl⟩ := q6.2.2
  rw [show ((1000000000 : Int64) * (2 : Int64)) = (2000000000 : Int64) from by decide] at P6_2
  show Gl _ _ _ _ _ _ _ _ [(.ref r1_6)]
  refine o_staticC W6 (w144 hw) (w145 hw) (w29 hw) (w146 hw) (by decide) (rm71 l hw gO88 gO89 gO90 gO91 z4 z5 r1_6 (2000000000 : Int64) h6 W6.old P6_1 P6_3 P6_5 P6_2 (by decide) (by decide) (by decide) (by decide) (by decide) z18 z19 VgO89 (by decide) (by decide) (by decide) (by decide) z20 z21 XgO90 (by decide) (by decide) (by decide) (by decide) (by decide) (by decide) z22 VgO91 z23 (by decide) (by decide)) 0 14 46 (by decide) (by rw [hml]; rfl) (lenOf pd40 rfl) [] rfl rfl 32 (hb hy d6_29) rfl rfl rfl all0 tri ?_
  intro v7 T7 h7 lo7 W7 K7 q7
  obtain ⟨r1_7, P7_0, P7_1, P7_2, P7_3, rfl⟩ := q7.2.2
  rw [show (((0 : Int64) + ((((((((2000000000 : Int64).toInt32).toInt64) &&& (4294967295 : Int64)) / (((1000000000 : Int32).toInt64) &&& (4294967295 : Int64))).toInt32).toInt64) &&& (4294967295 : Int64))) + (0 : Int64)) = (2 : Int64) from by decide] at P7_2
  show Gl _ _ _ _ _ _ _ _ [(.ref r1_7)]
  exact o_retA W7 hlk (v := (.ref r1_7)) hret rfl rfl (hb hy d6_32) (by decide) (by decide) ⟨r1_7, (Nat.le_trans W6.keep.1 P7_0), P7_1, P7_2, P7_3, rfl⟩
theorem rm73 (l : Launch) {Z a0} (hw : HW Z a0)  (h0 : Heap) (O0 : Old Z Z.heap.size h0) :
    CtrN l Z mn3 jdk_35_method_42_code 4 (some .int) [] (⟨0, 0, 0, 0⟩ : Room) #[(.long 2), (.long 10)] h0 [] (fun v h => v = some (.int (-1 : Int32))) := by
  refine CtrN.intro (L0 := #[.val (.long 2), .second, .val (.long 10), .second]) (plainFor_of_name pn2) O0 (fun _ => rfl) ?_
  intro p e s m below meth c T0 hy hml hret hlk hnm W0
  refine o_lloadN W0 1 (hb hy d8_0) rfl rfl <| o_lloadN W0 2 (hb hy d8_1) rfl rfl <| o_lcmp W0 (v := (-1 : Int32)) 3 (hb hy d8_2) (by decide) rfl <| o_ifN W0 6 (hb hy d8_3) (XT.i0_ge_f (by decide)) rfl <| o_iconst W0 (v := (-1 : Int32)) 7 (hb hy d8_6) (by decide) rfl <| o_goto W0 21 (hb hy d8_7) (by decide) rfl ?_
  exact o_retI W0 hlk hret (hb hy d8_21) (by decide) (by decide) rfl
theorem rm74 (l : Launch) {Z a0} (hw : HW Z a0) (gO2 a1 : Addr) (h0 : Heap) (O0 : Old Z Z.heap.size h0) (z0 : Fld Z h0 a1 s2 "seconds" "J" (.long 2)) (z1 : Fld Z Z.heap gO2 s2 "seconds" "J" (.long 10)) :
    CtrN l Z mn4 jdk_2316_method_66_code 3 (some .int) [] (⟨1, 0, 0, 15⟩ : Room) #[(.ref a1), (.ref gO2)] h0 [] (fun v h => v = some (.int (-1 : Int32))) := by
  refine CtrN.intro (L0 := #[vr a1, vr gO2, un]) (plainFor_of_name pn1) O0 (fun _ => rfl) ?_
  intro p e s m below meth c T0 hy hml hret hlk hnm W0
  refine o_aloadN W0 1 (hb hy d7_0) rfl rfl rfl ?_
  refine o_getF W0 (w38 hw) Via.refl z0 4 (hb hy d7_1) rfl ?_
  intro T1 W1
  refine o_aloadN W1 5 (hb hy d7_4) rfl rfl rfl ?_
  refine o_getF W1 (w38 hw) Via.refl (z1.ext W1.ox) 8 (hb hy d7_5) rfl ?_
  intro T2 W2
  refine o_staticC W2 (w40 hw) (w41 hw) (w42 hw) (w43 hw) (by decide) (rm73 l hw  h0 W2.old ) 0 0 0 (by decide) (by rw [hml]; rfl) (lenOf pd3 rfl) [] rfl rfl 11 (hb hy d7_8) rfl rfl rfl all0 tri ?_
  intro v3 T3 h3 lo3 W3 K3 q3
  obtain rfl := q3.2.2
  show Gl _ _ _ _ _ _ _ _ [(.int (-1 : Int32))]
  refine o_istoreN W3 (L' := #[vr a1, vr gO2, vi (-1 : Int32)]) 12 (hb hy d7_11) rfl rfl <| o_iloadN W3 13 (hb hy d7_12) rfl rfl <| o_ifN W3 16 (hb hy d7_13) (XT.i0_eq_f (by decide)) rfl <| o_iloadN W3 17 (hb hy d7_16) rfl rfl ?_
  exact o_retI W3 hlk hret (hb hy d7_17) (by decide) (by decide) rfl
theorem rm75 (l : Launch) {Z a0} (hw : HW Z a0) (gO1 gO2 gO3 gO4 gO7 gO10 gO13 gO16 gO19 gO22 gO25 gO28 gO31 gO34 gO37 gO38 gO41 gO44 gO47 gO50 gO53 gO56 gO59 gO62 gO65 gO68 gO71 gO74 gO77 gO80 gO83 gO86 gO87 gO88 gO89 gO90 gO91 : Addr) (z0 z1 z2 z3 z4 z5 : ClassId) (h0 : Heap) (O0 : Old Z Z.heap.size h0) (z6 : Sta Z Z.heap s6 "FIRST" s9 (.ref gO1)) (z7 : Fld Z Z.heap gO1 s2 "seconds" "J" (.long 1)) (z8 : Sta Z Z.heap s0 s12 s7 (.ref gO3)) (VgO3 : Arv Z Z.heap gO3 z0 (.object s0) (11 : Int32) [(.ref gO4), (.ref gO7), (.ref gO10), (.ref gO13), (.ref gO16), (.ref gO19), (.ref gO22), (.ref gO25), (.ref gO28), (.ref gO31), (.ref gO34)] .null) (z9 : Fld Z Z.heap gO1 s2 "nanos" "I" iZ) (z10 : Sta Z Z.heap s0 s16 s7 (.ref gO37)) (VgO37 : Arv Z Z.heap gO37 z1 (.object s0) (16 : Int32) [(.ref gO38), (.ref gO41), (.ref gO44), (.ref gO47), (.ref gO50), (.ref gO53), (.ref gO56), (.ref gO59), (.ref gO62), (.ref gO65), (.ref gO68), (.ref gO71), (.ref gO74), (.ref gO77), (.ref gO80), (.ref gO83)] .null) (z11 : Fld Z Z.heap gO7 s0 s4 "J" (.long 1)) (z12 : Fld Z Z.heap gO65 s0 s4 "J" (.long 0)) (z13 : Fld Z Z.heap gO7 s0 "scale" "I" iZ) (z14 : Fld Z Z.heap gO65 s0 "scale" "I" (.int 9)) (z15 : Sta Z Z.heap s0 s13 "[J" (.ref gO86)) (z16 : Sta Z Z.heap s0 s14 "[J" (.ref gO87)) (VgO86 : Arv Z Z.heap gO86 z2 .long (19 : Int32) [(.long 1), (.long 10), (.long 100), (.long 1000), (.long 10000), (.long 100000), (.long 1000000), (.long 10000000), (.long 100000000), (.long 1000000000), (.long 10000000000), (.long 100000000000), (.long 1000000000000), (.long 10000000000000), (.long 100000000000000), (.long 1000000000000000), (.long 10000000000000000), (.long 100000000000000000), (.long 1000000000000000000)] (.long 0)) (VgO87 : Arv Z Z.heap gO87 z3 .long (19 : Int32) [(.long 9223372036854775807), (.long 922337203685477580), (.long 92233720368547758), (.long 9223372036854775), (.long 922337203685477), (.long 92233720368547), (.long 9223372036854), (.long 922337203685), (.long 92233720368), (.long 9223372036), (.long 922337203), (.long 92233720), (.long 9223372), (.long 922337), (.long 92233), (.long 9223), (.long 922), (.long 92), (.long 9)] (.long 0)) (XgO7 : Exa Z Z.heap gO7 s0) (XgO1 : Exa Z Z.heap gO1 s2) (z17 : Fld Z Z.heap gO10 s0 "scale" "I" iZ) (z18 : Fld Z Z.heap gO10 s0 s4 "J" (.long 2)) (z19 : Sta Z Z.heap s2 s15 s5 (.ref gO88)) (z20 : Fld Z Z.heap gO88 s1 "mag" "[I" (.ref gO89)) (VgO89 : Arv Z Z.heap gO89 z4 .int (1 : Int32) [(.int 1000000000)] iZ) (z21 : Fld Z Z.heap gO88 s1 "signum" "I" (.int 1)) (z22 : Sta Z Z.heap s1 "ZERO" s5 (.ref gO90)) (XgO90 : Exa Z Z.heap gO90 s1) (z23 : Fld Z Z.heap gO90 s1 "mag" "[I" (.ref gO91)) (VgO91 : Arv Z Z.heap gO91 z5 .int (0 : Int32) [] iZ) (z24 : Fld Z Z.heap gO90 s1 "signum" "I" iZ) (z25 : Sta Z Z.heap s6 "MAX" s9 (.ref gO2)) (z26 : Fld Z Z.heap gO2 s2 "seconds" "J" (.long 10)) :
    CtrN l Z mn5 prog_3_method_2_code 2 (some (.object s2)) [] (⟨9, 14, 46, 136⟩ : Room) #[(.int 2)] h0 [] (fun v h => ∃ r1 : Addr, h0.size ≤ r1 ∧ Exa Z h r1 s2 ∧ Fld Z h r1 s2 "seconds" "J" (.long 2) ∧ Fld Z h r1 s2 "nanos" "I" iZ ∧ v = some (.ref r1)) := by
  refine CtrN.intro (L0 := #[vi 2, un]) (plainFor_of_name pn0) O0 (fun _ => rfl) ?_
  intro p e s m below meth c T0 hy hml hret hlk hnm W0
  refine o_iloadN W0 1 (hb hy d4_0) rfl rfl <| o_iconst W0 (v := 1) 2 (hb hy d4_1) rfl rfl <| o_icmpY W0 19 (hb hy d4_2) (XT.ii_ge_t (by decide)) (by decide) rfl ?_
  refine o_getS W0 (w19 hw) Via.refl (z6.ext W0.ox) 22 (hb hy d4_19) rfl ?_
  intro T1 W1
  refine o_lconst W1 (v := 1) 23 (hb hy d4_22) (by decide) rfl <| o_iloadN W1 24 (hb hy d4_23) rfl rfl <| o_iconst W1 (v := 1) 25 (hb hy d4_24) rfl rfl <| o_isub W1 (v := 1) 26 (hb hy d4_25) (by decide) rfl <| o_iconst W1 (v := 4) 27 (hb hy d4_26) rfl rfl ?_
  refine o_staticC W1 (w21 hw) (w22 hw) (w23 hw) (w24 hw) (by decide) (rm12 l hw  h0 W1.old ) 3 0 0 (by decide) (by rw [hml]; rfl) (lenOf pd1 rfl) [(.long 1), (.ref gO1)] rfl rfl 30 (hb hy d4_27) rfl rfl rfl all0 tri ?_
  intro v2 T2 h2 lo2 W2 K2 q2
  obtain rfl := q2.2.2
  show Gl _ _ _ _ _ _ _ _ [(.int 1), (.long 1), (.ref gO1)]
  refine o_lshl W2 (v := 2) 31 (hb hy d4_30) (by decide) rfl ?_
  refine o_virtualC W2 (w25 hw) (w26 hw) (o_nf W2 rfl (w28 hw)) (w28 hw) (w27 hw) (by decide) (XgO1.ext W2.ox) (w30 hw) (w29 hw) (rm72 l hw gO1 gO3 gO4 gO7 gO10 gO13 gO16 gO19 gO22 gO25 gO28 gO31 gO34 gO37 gO38 gO41 gO44 gO47 gO50 gO53 gO56 gO59 gO62 gO65 gO68 gO71 gO74 gO77 gO80 gO83 gO86 gO87 gO88 gO89 gO90 gO91 z0 z1 z2 z3 z4 z5 h2 W2.old z7 z8 VgO3 z9 z10 VgO37 z11 z12 z13 z14 z15 z16 VgO86 VgO87 XgO7 XgO1 z17 z18 z19 z20 VgO89 z21 z22 XgO90 z23 VgO91 z24) 0 14 46 (by decide) (by rw [hml]; rfl) (lenOf pd2 rfl) [] rfl rfl 34 (hb hy d4_31) rfl rfl rfl all0 tri ?_
  intro v3 T3 h3 lo3 W3 K3 q3
  obtain ⟨r1_3, P3_0, P3_1, P3_2, P3_3, rfl⟩ := q3.2.2
  show Gl _ _ _ _ _ _ _ _ [(.ref r1_3)]
  refine o_astoreN W3 (L' := #[vi 2, vr r1_3]) 35 (hb hy d4_34) rfl rfl rfl <| o_aloadN W3 36 (hb hy d4_35) rfl rfl rfl ?_
  refine o_getS W3 (w31 hw) Via.refl (z25.ext W3.ox) 39 (hb hy d4_36) rfl ?_
  intro T4 W4
  refine o_virtualC W4 (w33 hw) (w34 hw) (o_nf W4 rfl (w36 hw)) (w36 hw) (w35 hw) (by decide) P3_1 (w37 hw) (w29 hw) (rm74 l hw gO2 r1_3 h3 W4.old P3_2 z26) 0 14 46 (by decide) (by rw [hml]; rfl) (lenOf pd4 rfl) [] rfl rfl 42 (hb hy d4_39) rfl rfl rfl all0 tri ?_
  intro v5 T5 h5 lo5 W5 K5 q5
  obtain rfl := q5.2.2
  show Gl _ _ _ _ _ _ _ _ [(.int (-1 : Int32))]
  refine o_ifN W5 45 (hb hy d4_42) (XT.i0_ge_f (by decide)) rfl <| o_aloadN W5 46 (hb hy d4_45) rfl rfl rfl <| o_goto W5 52 (hb hy d4_46) (by decide) rfl ?_
  have c6 := (P3_1.keep K5)
  have c7 := (P3_2.keep K5 nin0)
  have c8 := (P3_3.keep K5 nin0)
  exact o_retA W5 hlk (v := (.ref r1_3)) hret rfl rfl (hb hy d4_52) (by decide) (by decide) ⟨r1_3, (Nat.le_trans W2.keep.1 P3_0), c6, c7, c8, rfl⟩
theorem rm76 (l : Launch) {Z a0} (hw : HW Z a0) (gO1 gO2 gO3 gO4 gO7 gO10 gO13 gO16 gO19 gO22 gO25 gO28 gO31 gO34 gO37 gO38 gO41 gO44 gO47 gO50 gO53 gO56 gO59 gO62 gO65 gO68 gO71 gO74 gO77 gO80 gO83 gO86 gO87 gO88 gO89 gO90 gO91 : Addr) (z0 z1 z2 z3 z4 z5 : ClassId) (a1 : Addr) (h0 : Heap) (O0 : Old Z Z.heap.size h0) (z6 : Fld Z h0 a1 s6 s11 "I" (.int 1)) (z7 : Exa Z h0 a1 s6) (z8 : Z.heap.size ≤ a1) (z9 : Sta Z Z.heap s6 "FIRST" s9 (.ref gO1)) (z10 : Fld Z Z.heap gO1 s2 "seconds" "J" (.long 1)) (z11 : Sta Z Z.heap s0 s12 s7 (.ref gO3)) (VgO3 : Arv Z Z.heap gO3 z0 (.object s0) (11 : Int32) [(.ref gO4), (.ref gO7), (.ref gO10), (.ref gO13), (.ref gO16), (.ref gO19), (.ref gO22), (.ref gO25), (.ref gO28), (.ref gO31), (.ref gO34)] .null) (z12 : Fld Z Z.heap gO1 s2 "nanos" "I" iZ) (z13 : Sta Z Z.heap s0 s16 s7 (.ref gO37)) (VgO37 : Arv Z Z.heap gO37 z1 (.object s0) (16 : Int32) [(.ref gO38), (.ref gO41), (.ref gO44), (.ref gO47), (.ref gO50), (.ref gO53), (.ref gO56), (.ref gO59), (.ref gO62), (.ref gO65), (.ref gO68), (.ref gO71), (.ref gO74), (.ref gO77), (.ref gO80), (.ref gO83)] .null) (z14 : Fld Z Z.heap gO7 s0 s4 "J" (.long 1)) (z15 : Fld Z Z.heap gO65 s0 s4 "J" (.long 0)) (z16 : Fld Z Z.heap gO7 s0 "scale" "I" iZ) (z17 : Fld Z Z.heap gO65 s0 "scale" "I" (.int 9)) (z18 : Sta Z Z.heap s0 s13 "[J" (.ref gO86)) (z19 : Sta Z Z.heap s0 s14 "[J" (.ref gO87)) (VgO86 : Arv Z Z.heap gO86 z2 .long (19 : Int32) [(.long 1), (.long 10), (.long 100), (.long 1000), (.long 10000), (.long 100000), (.long 1000000), (.long 10000000), (.long 100000000), (.long 1000000000), (.long 10000000000), (.long 100000000000), (.long 1000000000000), (.long 10000000000000), (.long 100000000000000), (.long 1000000000000000), (.long 10000000000000000), (.long 100000000000000000), (.long 1000000000000000000)] (.long 0)) (VgO87 : Arv Z Z.heap gO87 z3 .long (19 : Int32) [(.long 9223372036854775807), (.long 922337203685477580), (.long 92233720368547758), (.long 9223372036854775), (.long 922337203685477), (.long 92233720368547), (.long 9223372036854), (.long 922337203685), (.long 92233720368), (.long 9223372036), (.long 922337203), (.long 92233720), (.long 9223372), (.long 922337), (.long 92233), (.long 9223), (.long 922), (.long 92), (.long 9)] (.long 0)) (XgO7 : Exa Z Z.heap gO7 s0) (XgO1 : Exa Z Z.heap gO1 s2) (z20 : Fld Z Z.heap gO10 s0 "scale" "I" iZ) (z21 : Fld Z Z.heap gO10 s0 s4 "J" (.long 2)) (z22 : Sta Z Z.heap s2 s15 s5 (.ref gO88)) (z23 : Fld Z Z.heap gO88 s1 "mag" "[I" (.ref gO89)) (VgO89 : Arv Z Z.heap gO89 z4 .int (1 : Int32) [(.int 1000000000)] iZ) (z24 : Fld Z Z.heap gO88 s1 "signum" "I" (.int 1)) (z25 : Sta Z Z.heap s1 "ZERO" s5 (.ref gO90)) (XgO90 : Exa Z Z.heap gO90 s1) (z26 : Fld Z Z.heap gO90 s1 "mag" "[I" (.ref gO91)) (VgO91 : Arv Z Z.heap gO91 z5 .int (0 : Int32) [] iZ) (z27 : Fld Z Z.heap gO90 s1 "signum" "I" iZ) (z28 : Sta Z Z.heap s6 "MAX" s9 (.ref gO2)) (z29 : Fld Z Z.heap gO2 s2 "seconds" "J" (.long 10)) :
    CtrN l Z mn6 prog_3_method_3_code 1 (some (.object s2)) [] (⟨10, 14, 46, 149⟩ : Room) #[(.ref a1)] h0 [a1] (fun v h => ∃ r1 : Addr, h0.size ≤ r1 ∧ Fld Z h a1 s6 s11 "I" (.int 2) ∧ Exa Z h r1 s2 ∧ Fld Z h r1 s2 "seconds" "J" (.long 2) ∧ Fld Z h r1 s2 "nanos" "I" iZ ∧ v = some (.ref r1)) := by
  refine CtrN.intro (L0 := #[vr a1]) (plainFor_of_name pn0) O0 (fun _ => rfl) ?_
  intro p e s m below meth c T0 hy hml hret hlk hnm W0
  refine o_aloadN W0 1 (hb hy d3_0) rfl rfl rfl <| o_dup W0 2 (hb hy d3_1) rfl rfl ?_
  refine o_getF W0 (w14 hw) Via.refl z6 5 (hb hy d3_2) rfl ?_
  intro T1 W1
  refine o_iconst W1 (v := 1) 6 (hb hy d3_5) rfl rfl <| o_iadd W1 (v := 2) 7 (hb hy d3_6) (by decide) rfl ?_
  refine o_putF W1 (w14 hw) Via.refl z6 z7 (Or.inl (w15 hw)) (w1 hw) (ty := .int) (v' := (.int 2)) (by decide) rfl rfl z8 m0 tri 10 (hb hy d3_7) rfl ?_
  intro T2 h2 lo2 W2 R2
  have F2 := z6.same R2
  refine o_aloadN W2 11 (hb hy d3_10) rfl rfl rfl ?_
  refine o_getF W2 (w14 hw) Via.refl F2 14 (hb hy d3_11) rfl ?_
  intro T3 W3
  refine o_staticC W3 (w16 hw) (w17 hw) (w2 hw) (w18 hw) (by decide) (rm75 l hw gO1 gO2 gO3 gO4 gO7 gO10 gO13 gO16 gO19 gO22 gO25 gO28 gO31 gO34 gO37 gO38 gO41 gO44 gO47 gO50 gO53 gO56 gO59 gO62 gO65 gO68 gO71 gO74 gO77 gO80 gO83 gO86 gO87 gO88 gO89 gO90 gO91 z0 z1 z2 z3 z4 z5 h2 W3.old z9 z10 z11 VgO3 z12 z13 VgO37 z14 z15 z16 z17 z18 z19 VgO86 VgO87 XgO7 XgO1 z20 z21 z22 z23 VgO89 z24 z25 XgO90 z26 VgO91 z27 z28 z29) 0 14 46 (by decide) (by rw [hml]; rfl) (lenOf pd5 rfl) [] rfl rfl 17 (hb hy d3_14) rfl rfl rfl all0 tri ?_
  intro v4 T4 h4 lo4 W4 K4 q4
  obtain ⟨r1_4, P4_0, P4_1, P4_2, P4_3, rfl⟩ := q4.2.2
  show Gl _ _ _ _ _ _ _ _ [(.ref r1_4)]
  have c5 := (F2.keep K4 nin0)
  have c6 := ((z7.wr R2).keep K4)
  exact o_retA W4 hlk (v := (.ref r1_4)) hret rfl rfl (hb hy d3_17) (by decide) (by decide) ⟨r1_4, (Nat.le_trans W3.keep.1 P4_0), c5, P4_1, P4_2, P4_3, rfl⟩
theorem rm77 (l : Launch) {Z a0} (hw : HW Z a0) (a1 : Addr) (h0 : Heap) (O0 : Old Z Z.heap.size h0) (z0 : Fld Z h0 a1 s2 "seconds" "J" (.long 2)) :
    CtrN l Z mn7 jdk_2316_method_23_code 1 (some .long) [] (⟨0, 0, 0, 0⟩ : Room) #[(.ref a1)] h0 [] (fun v h => v = some (.long 2)) := by
  refine CtrN.intro (L0 := #[vr a1]) (plainFor_of_name pn1) O0 (fun _ => rfl) ?_
  intro p e s m below meth c T0 hy hml hret hlk hnm W0
  refine o_aloadN W0 1 (hb hy d10_0) rfl rfl rfl ?_
  refine o_getF W0 (w38 hw) Via.refl z0 4 (hb hy d10_1) rfl ?_
  intro T1 W1
  exact o_retJ W1 hlk hret (hb hy d10_4) (by decide) (by decide) rfl
theorem rm78 (l : Launch) {Z a0} (hw : HW Z a0)  (h0 : Heap) (O0 : Old Z Z.heap.size h0) :
    CtrN l Z mn8 method_2_code 1 (some .long) [] (⟨0, 0, 0, 0⟩ : Room) #[(.int 2)] h0 [] (fun v h => v = some (.long 2)) := by
  refine CtrN.intro (L0 := #[vi 2]) (plainFor_of_name pn3) O0 (fun _ => rfl) ?_
  intro p e s m below meth c T0 hy hml hret hlk hnm W0
  refine o_iloadN W0 1 (hb hy d11_0) rfl rfl <| o_iconst W0 (v := 1) 2 (hb hy d11_1) rfl rfl <| o_icmpY W0 7 (hb hy d11_2) (XT.ii_ne_t (by decide)) (by decide) rfl <| o_iloadN W0 8 (hb hy d11_7) rfl rfl <| o_iconst W0 (v := 2) 9 (hb hy d11_8) rfl rfl <| o_icmpN W0 12 (hb hy d11_9) (XT.ii_ne_f (by decide)) rfl ?_
  refine o_ldcJ W0 (w318 hw) 15 (hb hy d11_12) rfl ?_
  exact o_retJ W0 hlk hret (hb hy d11_15) (by decide) (by decide) rfl
theorem rm79 (l : Launch) {Z a0} (hw : HW Z a0) (a1 : Addr) (h0 : Heap) (O0 : Old Z Z.heap.size h0) (z0 : Fld Z h0 a1 s2 "nanos" "I" iZ) :
    CtrN l Z mn9 jdk_2316_method_24_code 1 (some .int) [] (⟨0, 0, 0, 0⟩ : Room) #[(.ref a1)] h0 [] (fun v h => v = some iZ) := by
  refine CtrN.intro (L0 := #[vr a1]) (plainFor_of_name pn1) O0 (fun _ => rfl) ?_
  intro p e s m below meth c T0 hy hml hret hlk hnm W0
  refine o_aloadN W0 1 (hb hy d12_0) rfl rfl rfl ?_
  refine o_getF W0 (w61 hw) Via.refl z0 4 (hb hy d12_1) rfl ?_
  intro T1 W1
  exact o_retI W1 hlk hret (hb hy d12_4) (by decide) (by decide) rfl
theorem rm80 (l : Launch) {Z a0} (hw : HW Z a0) (a1 : Addr) (h0 : Heap) (O0 : Old Z Z.heap.size h0) (z0 : Exa Z h0 a1 s2) (z1 : Fld Z h0 a1 s2 "seconds" "J" (.long 2)) (z2 : Fld Z h0 a1 s2 "nanos" "I" iZ) :
    CtrN l Z mn10 method_3_code 2 (some .boolean) [] (⟨1, 0, 0, 14⟩ : Room) #[(.ref a1), (.int 2)] h0 [] (fun v h => v = some (.int 1)) := by
  refine CtrN.intro (L0 := #[vr a1, vi 2]) (plainFor_of_name pn3) O0 (fun _ => rfl) ?_
  intro p e s m below meth c T0 hy hml hret hlk hnm W0
  refine o_aloadN W0 1 (hb hy d9_0) rfl rfl rfl ?_
  refine o_ifnullN W0 4 (hb hy d9_1) rfl ?_
  refine o_aloadN W0 5 (hb hy d9_4) rfl rfl rfl ?_
  refine o_virtualC W0 (w48 hw) (w49 hw) (o_nf W0 rfl (w51 hw)) (w51 hw) (w50 hw) (by decide) z0 (w52 hw) (w29 hw) (rm77 l hw a1 h0 W0.old z1) 0 0 0 (by decide) (by rw [hml]; rfl) (lenOf pd7 rfl) [] rfl rfl 8 (hb hy d9_5) rfl rfl rfl all0 tri ?_
  intro v1 T1 h1 lo1 W1 K1 q1
  obtain rfl := q1.2.2
  show Gl _ _ _ _ _ _ _ _ [(.long 2)]
  refine o_iloadN W1 9 (hb hy d9_8) rfl rfl ?_
  refine o_staticC W1 (w53 hw) (w54 hw) (w46 hw) (w55 hw) (by decide) (rm78 l hw  h1 W1.old ) 2 0 0 (by decide) (by rw [hml]; rfl) (lenOf pd8 rfl) [(.long 2)] rfl rfl 12 (hb hy d9_9) rfl rfl rfl all0 tri ?_
  intro v2 T2 h2 lo2 W2 K2 q2
  obtain rfl := q2.2.2
  show Gl _ _ _ _ _ _ _ _ [(.long 2), (.long 2)]
  refine o_lcmp W2 (v := 0) 13 (hb hy d9_12) (by decide) rfl <| o_ifN W2 16 (hb hy d9_13) (XT.i0_ne_f (by decide)) rfl <| o_aloadN W2 17 (hb hy d9_16) rfl rfl rfl ?_
  have c3 := ((z2.keep K1 nin0).keep K2 nin0)
  have c4 := ((z0.keep K1).keep K2)
  refine o_virtualC W2 (w56 hw) (w57 hw) (o_nf W2 rfl (w59 hw)) (w59 hw) (w58 hw) (by decide) c4 (w60 hw) (w29 hw) (rm79 l hw a1 h2 W2.old c3) 0 0 0 (by decide) (by rw [hml]; rfl) (lenOf pd9 rfl) [] rfl rfl 20 (hb hy d9_17) rfl rfl rfl all0 tri ?_
  intro v5 T5 h5 lo5 W5 K5 q5
  obtain rfl := q5.2.2
  show Gl _ _ _ _ _ _ _ _ [iZ]
  refine o_ifN W5 23 (hb hy d9_20) (XT.i0_ne_f (by decide)) rfl <| o_iconst W5 (v := 1) 24 (hb hy d9_23) rfl rfl <| o_goto W5 28 (hb hy d9_24) (by decide) rfl ?_
  exact o_retN W5 hlk (t := .boolean) hret (by simp) (z' := (1 : Int32)) (by decide) (hb hy d9_28) (by decide) (by decide) rfl
theorem rm81 (l : Launch) {Z a0} (hw : HW Z a0)  (h0 : Heap) (O0 : Old Z Z.heap.size h0) :
    CtrN l Z mn1 jdk_29_method_69_code 2 (some .int) [] (⟨0, 0, 0, 0⟩ : Room) #[(.int 2), (.int 4)] h0 [] (fun v h => v = some (.int 2)) := by
  refine CtrN.intro (L0 := #[vi 2, vi 4]) (Jvm.Free.JP.mathPlain rfl (by decide +kernel)) O0 (fun _ => rfl) ?_
  intro p e s m below meth c T0 hy hml hret hlk hnm W0
  refine o_iloadN W0 1 (hb hy d5_0) rfl rfl <| o_iloadN W0 2 (hb hy d5_1) rfl rfl <| o_icmpN W0 5 (hb hy d5_2) (XT.ii_gt_f (by decide)) rfl <| o_iloadN W0 6 (hb hy d5_5) rfl rfl <| o_goto W0 10 (hb hy d5_6) (by decide) rfl ?_
  exact o_retI W0 hlk hret (hb hy d5_10) (by decide) (by decide) rfl
theorem rm82 (l : Launch) {Z a0} (hw : HW Z a0) (gO3 gO4 gO7 gO10 gO13 gO16 gO19 gO22 gO25 gO28 gO31 gO34 : Addr) (z0 : ClassId) (h0 : Heap) (O0 : Old Z Z.heap.size h0) (z1 : Sta Z Z.heap s0 s12 s7 (.ref gO3)) (VgO3 : Arv Z Z.heap gO3 z0 (.object s0) (11 : Int32) [(.ref gO4), (.ref gO7), (.ref gO10), (.ref gO13), (.ref gO16), (.ref gO19), (.ref gO22), (.ref gO25), (.ref gO28), (.ref gO31), (.ref gO34)] .null) :
    CtrN l Z mn11 jdk_17_method_21_code 2 (some (.object s0)) [] (⟨0, 0, 0, 0⟩ : Room) #[(.long 4)] h0 [] (fun v h => v = some (.ref gO16)) := by
  refine CtrN.intro (L0 := #[.val (.long 4), .second]) (plainFor_of_name pn4) O0 (fun _ => rfl) ?_
  intro p e s m below meth c T0 hy hml hret hlk hnm W0
  refine o_lloadN W0 1 (hb hy d14_0) rfl rfl <| o_lconst W0 (v := 0) 2 (hb hy d14_1) (by decide) rfl <| o_lcmp W0 (v := 1) 3 (hb hy d14_2) (by decide) rfl <| o_ifN W0 6 (hb hy d14_3) (XT.i0_lt_f (by decide)) rfl <| o_lloadN W0 7 (hb hy d14_6) rfl rfl ?_
  refine o_getS W0 (w72 hw) Via.refl (z1.ext W0.ox) 10 (hb hy d14_7) rfl ?_
  intro T1 W1
  refine o_len W1 (VgO3.ext W1.ox) 11 (hb hy d14_10) rfl <| o_i2l W1 (v := 11) 12 (hb hy d14_11) (by decide) rfl <| o_lcmp W1 (v := (-1 : Int32)) 13 (hb hy d14_12) (by decide) rfl <| o_ifN W1 16 (hb hy d14_13) (XT.i0_ge_f (by decide)) rfl ?_
  refine o_getS W1 (w72 hw) Via.refl (z1.ext W1.ox) 19 (hb hy d14_16) rfl ?_
  intro T2 W2
  refine o_lloadN W2 20 (hb hy d14_19) rfl rfl <| o_l2i W2 (v := 4) 21 (hb hy d14_20) (by decide) rfl ?_
  refine o_aaload W2 (VgO3.ext W2.ox) rfl (v := (.ref gO16)) (i := 4) (by decide) (by decide) (by decide) rfl 22 (hb hy d14_21) rfl ?_
  exact o_retA W2 hlk (v := (.ref gO16)) hret rfl rfl (hb hy d14_22) (by decide) (by decide) rfl
theorem rm83 (l : Launch) {Z a0} (hw : HW Z a0)  (h0 : Heap) (O0 : Old Z Z.heap.size h0) :
    CtrN l Z mn24 jdk_29_method_61_code 2 (some .long) [] (⟨0, 0, 0, 0⟩ : Room) #[(.long 4)] h0 [] (fun v h => v = some (.long 4)) := by
  refine CtrN.intro (L0 := #[.val (.long 4), .second]) (Jvm.Free.JP.mathPlain rfl (by decide +kernel)) O0 (fun _ => rfl) ?_
  intro p e s m below meth c T0 hy hml hret hlk hnm W0
  refine o_lloadN W0 1 (hb hy d29_0) rfl rfl <| o_lconst W0 (v := 0) 2 (hb hy d29_1) (by decide) rfl <| o_lcmp W0 (v := 1) 3 (hb hy d29_2) (by decide) rfl <| o_ifY W0 11 (hb hy d29_3) (XT.i0_ge_t (by decide)) (by decide) rfl <| o_lloadN W0 12 (hb hy d29_11) rfl rfl ?_
  exact o_retJ W0 hlk hret (hb hy d29_12) (by decide) (by decide) rfl
theorem rm84 (l : Launch) {Z a0} (hw : HW Z a0) (y1 : Int64) (h0 : Heap) (O0 : Old Z Z.heap.size h0) (hc1 : ¬ ((lcmpW y1 (0 : Int64)) < (0 : Int32))) (hc4 : (lcmpW (((y1 ||| (4 : Int64)).toUInt64 >>> ((31 : Int32) &&& 0x3f).toInt64.toUInt64).toInt64) (0 : Int64)) = (0 : Int32)) :
    CtrN l Z mn25 jdk_17_method_156_code 10 (some .long) [] (⟨1, 0, 0, 13⟩ : Room) #[(.long y1), (.long 4)] h0 [] (fun v h => v = some (.long (y1 * (4 : Int64)))) := by
  refine CtrN.intro (L0 := #[.val (.long y1), .second, .val (.long 4), .second, un, un, un, un, un, un]) (plainFor_of_name pn4) O0 (fun _ => rfl) ?_
  intro p e s m below meth c T0 hy hml hret hlk hnm W0
  refine o_lloadN W0 1 (hb hy d28_0) rfl rfl <| o_lloadN W0 2 (hb hy d28_1) rfl rfl <| o_lmul W0 (v := (y1 * (4 : Int64))) 3 (hb hy d28_2) rfl rfl <| o_lstore W0 (L' := #[.val (.long y1), .second, .val (.long 4), .second, .val (.long (y1 * (4 : Int64))), .second, un, un, un, un]) 5 (hb hy d28_3) rfl rfl <| o_lloadN W0 6 (hb hy d28_5) rfl rfl ?_
  refine o_staticC W0 (w141 hw) (w142 hw) (w23 hw) (w143 hw) (by decide) (rm28 l hw y1 h0 W0.old hc1) 0 0 0 (by decide) (by rw [hml]; rfl) (lenOf pd22 rfl) [] rfl rfl 9 (hb hy d28_6) rfl rfl rfl all0 tri ?_
  intro v2 T2 h2 lo2 W2 K2 q2
  obtain rfl := q2.2.2
  show Gl _ _ _ _ _ _ _ _ [(.long y1)]
  refine o_lstore W2 (L' := #[.val (.long y1), .second, .val (.long 4), .second, .val (.long (y1 * (4 : Int64))), .second, .val (.long y1), .second, un, un]) 11 (hb hy d28_9) rfl rfl <| o_lloadN W2 12 (hb hy d28_11) rfl rfl ?_
  refine o_staticC W2 (w141 hw) (w142 hw) (w23 hw) (w143 hw) (by decide) (rm83 l hw  h2 W2.old ) 0 0 0 (by decide) (by rw [hml]; rfl) (lenOf pd22 rfl) [] rfl rfl 15 (hb hy d28_12) rfl rfl rfl all0 tri ?_
  intro v3 T3 h3 lo3 W3 K3 q3
  obtain rfl := q3.2.2
  show Gl _ _ _ _ _ _ _ _ [(.long 4)]
  refine o_lstore W3 (L' := #[.val (.long y1), .second, .val (.long 4), .second, .val (.long (y1 * (4 : Int64))), .second, .val (.long y1), .second, .val (.long 4), .second]) 17 (hb hy d28_15) rfl rfl <| o_lload W3 19 (hb hy d28_17) rfl rfl <| o_lload W3 21 (hb hy d28_19) rfl rfl <| o_lor W3 (v := (y1 ||| (4 : Int64))) 22 (hb hy d28_21) rfl rfl <| o_bipush W3 (v := 31) 24 (hb hy d28_22) (by decide) rfl <| o_lushr W3 (v := (((y1 ||| (4 : Int64)).toUInt64 >>> ((31 : Int32) &&& 0x3f).toInt64.toUInt64).toInt64)) 25 (hb hy d28_24) rfl rfl ?_
  refine o_lconst W3 (v := 0) 26 (hb hy d28_25) (by decide) rfl <| o_lcmp W3 (v := (lcmpW (((y1 ||| (4 : Int64)).toUInt64 >>> ((31 : Int32) &&& 0x3f).toInt64.toUInt64).toInt64) (0 : Int64))) 27 (hb hy d28_26) rfl rfl <| o_ifY W3 45 (hb hy d28_27) (XT.i0_eq_t hc4) (by decide) rfl <| o_lload W3 47 (hb hy d28_45) rfl rfl ?_
  exact o_retJ W3 hlk hret (hb hy d28_47) (by decide) (by decide) rfl
theorem rm85 (l : Launch) {Z a0} (hw : HW Z a0) (y1 : Int64) (h0 : Heap) (O0 : Old Z Z.heap.size h0) (hc1 : ¬ ((lcmpW y1 (0 : Int64)) < (0 : Int32))) (hc2 : (lcmpW (((y1 ||| (4 : Int64)).toUInt64 >>> ((31 : Int32) &&& 0x3f).toInt64.toUInt64).toInt64) (0 : Int64)) = (0 : Int32)) (hc4 : ¬ ((lcmpW (y1 * (4 : Int64)) (-9223372036854775808 : Int64)) = (0 : Int32))) (hc5 : ¬ ((lcmpW (y1 * (4 : Int64)) (0 : Int64)) = (0 : Int32))) :
    CtrN l Z mn26 jdk_17_method_157_code 7 (some (.object s0)) [] (⟨4, 1, 5, 56⟩ : Room) #[(.long y1), (.long 4), (.int 9)] h0 [] (fun v h => ∃ r1 : Addr, h0.size ≤ r1 ∧ Exa Z h r1 s0 ∧ Fld Z h r1 s0 s4 "J" (.long (y1 * (4 : Int64))) ∧ Fld Z h r1 s0 "scale" "I" (.int 9) ∧ Fld Z h r1 s0 s10 "I" iZ ∧ Fld Z h r1 s0 "intVal" s5 .null ∧ v = some (.ref r1)) := by
  refine CtrN.intro (L0 := #[.val (.long y1), .second, .val (.long 4), .second, vi 9, un, un]) (plainFor_of_name pn4) O0 (fun _ => rfl) ?_
  intro p e s m below meth c T0 hy hml hret hlk hnm W0
  refine o_lloadN W0 1 (hb hy d27_0) rfl rfl <| o_lloadN W0 2 (hb hy d27_1) rfl rfl ?_
  refine o_staticC W0 (w138 hw) (w139 hw) (w70 hw) (w140 hw) (by decide) (rm84 l hw y1 h0 W0.old hc1 hc2) 0 0 0 (by decide) (by rw [hml]; rfl) (lenOf pd15 rfl) [] rfl rfl 5 (hb hy d27_2) rfl rfl rfl all0 tri ?_
  intro v3 T3 h3 lo3 W3 K3 q3
  obtain rfl := q3.2.2
  show Gl _ _ _ _ _ _ _ _ [(.long (y1 * (4 : Int64)))]
  refine o_lstore W3 (L' := #[.val (.long y1), .second, .val (.long 4), .second, vi 9, .val (.long (y1 * (4 : Int64))), .second]) 7 (hb hy d27_5) rfl rfl <| o_lload W3 9 (hb hy d27_7) rfl rfl <| o_ldcJ W3 (w87 hw) 12 (hb hy d27_9) rfl <| o_lcmp W3 (v := (lcmpW (y1 * (4 : Int64)) (-9223372036854775808 : Int64))) 13 (hb hy d27_12) rfl rfl <| o_ifN W3 16 (hb hy d27_13) (XT.i0_eq_f hc4) rfl <| o_lload W3 18 (hb hy d27_16) rfl rfl ?_
  refine o_iload W3 20 (hb hy d27_18) rfl rfl ?_
  refine o_staticC W3 (w107 hw) (w74 hw) (w70 hw) (w75 hw) (by decide) (rm21 l hw (y1 * (4 : Int64)) h3 W3.old hc5 hc4) 0 1 5 (by decide) (by rw [hml]; rfl) (lenOf pd13 rfl) [] rfl rfl 23 (hb hy d27_20) rfl rfl rfl all0 tri ?_
  intro v6 T6 h6 lo6 W6 K6 q6
  obtain ⟨r1_6, P6_0, P6_1, P6_2, P6_3, P6_4, P6_5, rfl⟩ := q6.2.2
  show Gl _ _ _ _ _ _ _ _ [(.ref r1_6)]
  exact o_retA W6 hlk (v := (.ref r1_6)) hret rfl rfl (hb hy d27_23) (by decide) (by decide) ⟨r1_6, (Nat.le_trans W3.keep.1 P6_0), P6_1, P6_2, P6_3, P6_4, P6_5, rfl⟩
theorem rm86 (l : Launch) {Z a0} (hw : HW Z a0) (gO16 a1 : Addr) (y1 : Int64) (h0 : Heap) (O0 : Old Z Z.heap.size h0) (z0 : Fld Z h0 a1 s0 "scale" "I" (.int 9)) (z1 : Fld Z Z.heap gO16 s0 "scale" "I" iZ) (z2 : Exa Z h0 a1 s0) (z3 : Fld Z h0 a1 s0 s4 "J" (.long y1)) (hc6 : ¬ ((lcmpW y1 (-9223372036854775808 : Int64)) = (0 : Int32))) (z4 : Fld Z Z.heap gO16 s0 s4 "J" (.long 4)) (hc10 : ¬ ((lcmpW y1 (0 : Int64)) < (0 : Int32))) (hc11 : (lcmpW (((y1 ||| (4 : Int64)).toUInt64 >>> ((31 : Int32) &&& 0x3f).toInt64.toUInt64).toInt64) (0 : Int64)) = (0 : Int32)) (hc12 : ¬ ((lcmpW (y1 * (4 : Int64)) (-9223372036854775808 : Int64)) = (0 : Int32))) (hc13 : ¬ ((lcmpW (y1 * (4 : Int64)) (0 : Int64)) = (0 : Int32))) :
    CtrN l Z mn27 jdk_17_method_31_code 3 (some (.object s0)) [] (⟨5, 1, 5, 74⟩ : Room) #[(.ref a1), (.ref gO16)] h0 [] (fun v h => ∃ r1 : Addr, h0.size ≤ r1 ∧ Exa Z h r1 s0 ∧ Fld Z h r1 s0 s4 "J" (.long (y1 * (4 : Int64))) ∧ Fld Z h r1 s0 "scale" "I" (.int 9) ∧ Fld Z h r1 s0 s10 "I" iZ ∧ Fld Z h r1 s0 "intVal" s5 .null ∧ v = some (.ref r1)) := by
  refine CtrN.intro (L0 := #[vr a1, vr gO16, un]) (plainFor_of_name pn4) O0 (fun _ => rfl) ?_
  intro p e s m below meth c T0 hy hml hret hlk hnm W0
  refine o_aloadN W0 1 (hb hy d25_0) rfl rfl rfl <| o_aloadN W0 2 (hb hy d25_1) rfl rfl rfl ?_
  refine o_getF W0 (w88 hw) Via.refl z0 5 (hb hy d25_2) rfl ?_
  intro T1 W1
  refine o_i2l W1 (v := 9) 6 (hb hy d25_5) (by decide) rfl <| o_aloadN W1 7 (hb hy d25_6) rfl rfl rfl ?_
  refine o_getF W1 (w88 hw) Via.refl (z1.ext W1.ox) 10 (hb hy d25_7) rfl ?_
  intro T2 W2
  refine o_i2l W2 (v := 0) 11 (hb hy d25_10) (by decide) rfl <| o_ladd W2 (v := 9) 12 (hb hy d25_11) (by decide) rfl ?_
  refine o_privateC W2 (w130 hw) (w131 hw) (w133 hw) (w132 hw) (w134 hw) (by decide) z2 (w70 hw) (rm27 l hw a1 h0 W2.old ) 0 0 0 (by decide) (by rw [hml]; rfl) (lenOf pd21 rfl) [] rfl rfl 15 (hb hy d25_12) rfl rfl rfl all0 tri ?_
  intro v3 T3 h3 lo3 W3 K3 q3
  obtain rfl := q3.2.2
  show Gl _ _ _ _ _ _ _ _ [(.int 9)]
  refine o_istoreN W3 (L' := #[vr a1, vr gO16, vi 9]) 16 (hb hy d25_15) rfl rfl <| o_aloadN W3 17 (hb hy d25_16) rfl rfl rfl ?_
  have c4 := (z3.keep K3 nin0)
  refine o_getF W3 (w85 hw) Via.refl c4 20 (hb hy d25_17) rfl ?_
  intro T5 W5
  refine o_ldcJ W5 (w87 hw) 23 (hb hy d25_20) rfl <| o_lcmp W5 (v := (lcmpW y1 (-9223372036854775808 : Int64))) 24 (hb hy d25_23) rfl rfl <| o_ifN W5 27 (hb hy d25_24) (XT.i0_eq_f hc6) rfl <| o_aloadN W5 28 (hb hy d25_27) rfl rfl rfl ?_
  refine o_getF W5 (w85 hw) Via.refl (z4.ext W5.ox) 31 (hb hy d25_28) rfl ?_
  intro T7 W7
  refine o_ldcJ W7 (w87 hw) 34 (hb hy d25_31) rfl <| o_lcmp W7 (v := 1) 35 (hb hy d25_34) (by decide) rfl <| o_ifN W7 38 (hb hy d25_35) (XT.i0_eq_f (by decide)) rfl <| o_aloadN W7 39 (hb hy d25_38) rfl rfl rfl ?_
  refine o_getF W7 (w85 hw) Via.refl c4 42 (hb hy d25_39) rfl ?_
  intro T8 W8
  refine o_aloadN W8 43 (hb hy d25_42) rfl rfl rfl ?_
  refine o_getF W8 (w85 hw) Via.refl (z4.ext W8.ox) 46 (hb hy d25_43) rfl ?_
  intro T9 W9
  refine o_iloadN W9 47 (hb hy d25_46) rfl rfl ?_
  refine o_staticC W9 (w135 hw) (w136 hw) (w70 hw) (w137 hw) (by decide) (rm85 l hw y1 h3 W9.old hc10 hc11 hc12 hc13) 0 1 5 (by decide) (by rw [hml]; rfl) (lenOf pd17 rfl) [] rfl rfl 50 (hb hy d25_47) rfl rfl rfl all0 tri ?_
  intro v14 T14 h14 lo14 W14 K14 q14
  obtain ⟨r1_14, P14_0, P14_1, P14_2, P14_3, P14_4, P14_5, rfl⟩ := q14.2.2
  show Gl _ _ _ _ _ _ _ _ [(.ref r1_14)]
  exact o_retA W14 hlk (v := (.ref r1_14)) hret rfl rfl (hb hy d25_50) (by decide) (by decide) ⟨r1_14, (Nat.le_trans W9.keep.1 P14_0), P14_1, P14_2, P14_3, P14_4, P14_5, rfl⟩
theorem rm87 (l : Launch) {Z a0} (hw : HW Z a0) (x1 : Int32) (h0 : Heap) (O0 : Old Z Z.heap.size h0) (hc1 : (0 : Int32) < x1) (hc2 : x1 < (65536 : Int32)) (hc3 : x1 < (256 : Int32)) (hc4 : x1 < (16 : Int32)) (hc5 : ¬ (x1 < (4 : Int32))) :
    CtrN l Z mn46 jdk_33_method_47_code 2 (some .int) [] (⟨0, 0, 0, 0⟩ : Room) #[(.int x1)] h0 [] (fun v h => v = some (.int ((29 : Int32) - ((((x1.toUInt32 >>> ((2 : Int32) &&& 31).toUInt32).toInt32).toUInt32 >>> ((1 : Int32) &&& 31).toUInt32).toInt32)))) := by
  refine CtrN.intro (L0 := #[vi x1, un]) (plainFor_of_name pn8) O0 (fun _ => rfl) ?_
  intro p e s m below meth c T0 hy hml hret hlk hnm W0
  refine o_iloadN W0 1 (hb hy d51_0) rfl rfl <| o_ifY W0 15 (hb hy d51_1) (XT.i0_gt_t hc1) (by decide) rfl <| o_bipush W0 (v := 31) 17 (hb hy d51_15) (by decide) rfl <| o_istoreN W0 (L' := #[vi x1, vi 31]) 18 (hb hy d51_17) rfl rfl <| o_iloadN W0 19 (hb hy d51_18) rfl rfl ?_
  refine o_ldcWI W0 (w273 hw) 22 (hb hy d51_19) rfl ?_
  refine o_icmpY W0 33 (hb hy d51_22) (XT.ii_lt_t hc2) (by decide) rfl <| o_iloadN W0 34 (hb hy d51_33) rfl rfl <| o_sipush W0 (v := 256) 37 (hb hy d51_34) (by decide) rfl <| o_icmpY W0 48 (hb hy d51_37) (XT.ii_lt_t hc3) (by decide) rfl <| o_iloadN W0 49 (hb hy d51_48) rfl rfl <| o_bipush W0 (v := 16) 51 (hb hy d51_49) (by decide) rfl ?_
  refine o_icmpY W0 61 (hb hy d51_51) (XT.ii_lt_t hc4) (by decide) rfl <| o_iloadN W0 62 (hb hy d51_61) rfl rfl <| o_iconst W0 (v := 4) 63 (hb hy d51_62) rfl rfl <| o_icmpN W0 66 (hb hy d51_63) (XT.ii_lt_f hc5) rfl <| o_iinc W0 (v := 29) (L' := #[vi x1, vi 29]) 69 (hb hy d51_66) rfl (by decide) rfl rfl <| o_iloadN W0 70 (hb hy d51_69) rfl rfl ?_
  refine o_iconst W0 (v := 2) 71 (hb hy d51_70) rfl rfl <| o_iushr W0 (v := ((x1.toUInt32 >>> ((2 : Int32) &&& 31).toUInt32).toInt32)) 72 (hb hy d51_71) rfl rfl <| o_istoreN W0 (L' := #[.val (.int ((x1.toUInt32 >>> ((2 : Int32) &&& 31).toUInt32).toInt32)), vi 29]) 73 (hb hy d51_72) rfl rfl <| o_iloadN W0 74 (hb hy d51_73) rfl rfl <| o_iloadN W0 75 (hb hy d51_74) rfl rfl <| o_iconst W0 (v := 1) 76 (hb hy d51_75) rfl rfl ?_
  refine o_iushr W0 (v := ((((x1.toUInt32 >>> ((2 : Int32) &&& 31).toUInt32).toInt32).toUInt32 >>> ((1 : Int32) &&& 31).toUInt32).toInt32)) 77 (hb hy d51_76) rfl rfl <| o_isub W0 (v := ((29 : Int32) - ((((x1.toUInt32 >>> ((2 : Int32) &&& 31).toUInt32).toInt32).toUInt32 >>> ((1 : Int32) &&& 31).toUInt32).toInt32))) 78 (hb hy d51_77) rfl rfl ?_
  exact o_retI W0 hlk hret (hb hy d51_78) (by decide) (by decide) rfl
theorem rm88 (l : Launch) {Z a0} (hw : HW Z a0) (x1 : Int32) (h0 : Heap) (O0 : Old Z Z.heap.size h0) (hc1 : (0 : Int32) < x1) (hc2 : x1 < (65536 : Int32)) (hc3 : x1 < (256 : Int32)) (hc4 : x1 < (16 : Int32)) (hc5 : ¬ (x1 < (4 : Int32))) :
    CtrN l Z mn47 jdk_2097_method_74_code 1 (some .int) [] (⟨1, 0, 0, 14⟩ : Room) #[(.int x1)] h0 [] (fun v h => v = some (.int ((32 : Int32) - ((29 : Int32) - ((((x1.toUInt32 >>> ((2 : Int32) &&& 31).toUInt32).toInt32).toUInt32 >>> ((1 : Int32) &&& 31).toUInt32).toInt32))))) := by
  refine CtrN.intro (L0 := #[vi x1]) (plainFor_of_name pn6) O0 (fun _ => rfl) ?_
  intro p e s m below meth c T0 hy hml hret hlk hnm W0
  refine o_bipush W0 (v := 32) 2 (hb hy d50_0) (by decide) rfl <| o_iloadN W0 3 (hb hy d50_2) rfl rfl ?_
  refine o_staticC W0 (w269 hw) (w270 hw) (w271 hw) (w272 hw) (by decide) (rm87 l hw x1 h0 W0.old hc1 hc2 hc3 hc4 hc5) 1 0 0 (by decide) (by rw [hml]; rfl) (lenOf pd36 rfl) [(.int 32)] rfl rfl 6 (hb hy d50_3) rfl rfl rfl all0 tri ?_
  intro v6 T6 h6 lo6 W6 K6 q6
  obtain rfl := q6.2.2
  show Gl _ _ _ _ _ _ _ _ [(.int ((29 : Int32) - ((((x1.toUInt32 >>> ((2 : Int32) &&& 31).toUInt32).toInt32).toUInt32 >>> ((1 : Int32) &&& 31).toUInt32).toInt32))), (.int 32)]
  refine o_isub W6 (v := ((32 : Int32) - ((29 : Int32) - ((((x1.toUInt32 >>> ((2 : Int32) &&& 31).toUInt32).toInt32).toUInt32 >>> ((1 : Int32) &&& 31).toUInt32).toInt32)))) 7 (hb hy d50_6) rfl rfl ?_
  exact o_retI W6 hlk hret (hb hy d50_7) (by decide) (by decide) rfl
theorem rm89 (l : Launch) {Z a0} (hw : HW Z a0) (a1 a2 : Addr) (z0 : ClassId) (x1 : Int32) (h0 : Heap) (O0 : Old Z Z.heap.size h0) (z1 : Fld Z h0 a1 s1 s8 "I" iZ) (z2 : Fld Z h0 a1 s1 "mag" "[I" (.ref a2)) (z3 : Arv Z h0 a2 z0 .int 1 [(.int x1)] iZ) (hc4 : (0 : Int32) < x1) (hc5 : x1 < (65536 : Int32)) (hc6 : x1 < (256 : Int32)) (hc7 : x1 < (16 : Int32)) (hc8 : ¬ (x1 < (4 : Int32))) (z4 : Fld Z h0 a1 s1 "signum" "I" (.int 1)) (z5 : Exa Z h0 a1 s1) (z6 : Z.heap.size ≤ a1) :
    CtrN l Z mn48 jdk_2097_method_118_code 7 (some .int) [] (⟨2, 0, 0, 27⟩ : Room) #[(.ref a1)] h0 [a1] (fun v h => Fld Z h a1 s1 s8 "I" (.int (((0 : Int32) + ((32 : Int32) - ((29 : Int32) - ((((x1.toUInt32 >>> ((2 : Int32) &&& 31).toUInt32).toInt32).toUInt32 >>> ((1 : Int32) &&& 31).toUInt32).toInt32)))) + 1)) ∧ Fld Z h a1 s1 "mag" "[I" (.ref a2) ∧ Fld Z h a1 s1 "signum" "I" (.int 1) ∧ v = some (.int ((0 : Int32) + ((32 : Int32) - ((29 : Int32) - ((((x1.toUInt32 >>> ((2 : Int32) &&& 31).toUInt32).toInt32).toUInt32 >>> ((1 : Int32) &&& 31).toUInt32).toInt32)))))) := by
  refine CtrN.intro (L0 := #[vr a1, un, un, un, un, un, un]) (plainFor_of_name pn6) O0 (fun _ => rfl) ?_
  intro p e s m below meth c T0 hy hml hret hlk hnm W0
  refine o_aloadN W0 1 (hb hy d49_0) rfl rfl rfl ?_
  refine o_getF W0 (w264 hw) Via.refl z1 4 (hb hy d49_1) rfl ?_
  intro T1 W1
  refine o_iconst W1 (v := 1) 5 (hb hy d49_4) rfl rfl <| o_isub W1 (v := (-1 : Int32)) 6 (hb hy d49_5) (by decide) rfl <| o_istoreN W1 (L' := #[vr a1, vi (-1 : Int32), un, un, un, un, un]) 7 (hb hy d49_6) rfl rfl <| o_iloadN W1 8 (hb hy d49_7) rfl rfl <| o_iconst W1 (v := (-1 : Int32)) 9 (hb hy d49_8) (by decide) rfl <| o_icmpN W1 12 (hb hy d49_9) (XT.ii_ne_f (by decide)) rfl ?_
  refine o_aloadN W1 13 (hb hy d49_12) rfl rfl rfl ?_
  refine o_getF W1 (w183 hw) Via.refl z2 16 (hb hy d49_13) rfl ?_
  intro T2 W2
  refine o_astoreN W2 (L' := #[vr a1, vi (-1 : Int32), vr a2, un, un, un, un]) 17 (hb hy d49_16) rfl rfl rfl <| o_aloadN W2 18 (hb hy d49_17) rfl rfl rfl <| o_len W2 z3 19 (hb hy d49_18) rfl <| o_istoreN W2 (L' := #[vr a1, vi (-1 : Int32), vr a2, vi 1, un, un, un]) 20 (hb hy d49_19) rfl rfl <| o_iloadN W2 21 (hb hy d49_20) rfl rfl <| o_ifY W2 29 (hb hy d49_21) (XT.i0_ne_t (by decide)) (by decide) rfl ?_
  refine o_iloadN W2 30 (hb hy d49_29) rfl rfl <| o_iconst W2 (v := 1) 31 (hb hy d49_30) rfl rfl <| o_isub W2 (v := 0) 32 (hb hy d49_31) (by decide) rfl <| o_iconst W2 (v := 5) 33 (hb hy d49_32) rfl rfl <| o_ishl W2 (v := 0) 34 (hb hy d49_33) (by decide) rfl <| o_aloadN W2 35 (hb hy d49_34) rfl rfl rfl ?_
  refine o_getF W2 (w183 hw) Via.refl z2 38 (hb hy d49_35) rfl ?_
  intro T3 W3
  refine o_iconst W3 (v := 0) 39 (hb hy d49_38) rfl rfl <| o_iaload W3 z3 (x := x1) (i := 0) (by decide) (by decide) (by decide) rfl 40 (hb hy d49_39) rfl ?_
  refine o_staticC W3 (w266 hw) (w267 hw) (w169 hw) (w268 hw) (by decide) (rm88 l hw x1 h0 W3.old hc4 hc5 hc6 hc7 hc8) 1 0 0 (by decide) (by rw [hml]; rfl) (lenOf pd36 rfl) [iZ] rfl rfl 43 (hb hy d49_40) rfl rfl rfl all0 tri ?_
  intro v9 T9 h9 lo9 W9 K9 q9
  obtain rfl := q9.2.2
  show Gl _ _ _ _ _ _ _ _ [(.int ((32 : Int32) - ((29 : Int32) - ((((x1.toUInt32 >>> ((2 : Int32) &&& 31).toUInt32).toInt32).toUInt32 >>> ((1 : Int32) &&& 31).toUInt32).toInt32)))), iZ]
  refine o_iadd W9 (v := ((0 : Int32) + ((32 : Int32) - ((29 : Int32) - ((((x1.toUInt32 >>> ((2 : Int32) &&& 31).toUInt32).toInt32).toUInt32 >>> ((1 : Int32) &&& 31).toUInt32).toInt32))))) 44 (hb hy d49_43) rfl rfl <| o_istore W9 (L' := #[vr a1, vi (-1 : Int32), vr a2, vi 1, .val (.int ((0 : Int32) + ((32 : Int32) - ((29 : Int32) - ((((x1.toUInt32 >>> ((2 : Int32) &&& 31).toUInt32).toInt32).toUInt32 >>> ((1 : Int32) &&& 31).toUInt32).toInt32))))), un, un]) 46 (hb hy d49_44) rfl rfl <| o_aloadN W9 47 (hb hy d49_46) rfl rfl rfl ?_
  have c10 := (z4.keep K9 nin0)
  refine o_getF W9 (w180 hw) Via.refl c10 50 (hb hy d49_47) rfl ?_
  intro T11 W11
  refine o_ifY W11 128 (hb hy d49_50) (XT.i0_ge_t (by decide)) (by decide) rfl <| o_iload W11 130 (hb hy d49_128) rfl rfl <| o_istoreN W11 (L' := #[vr a1, .val (.int ((0 : Int32) + ((32 : Int32) - ((29 : Int32) - ((((x1.toUInt32 >>> ((2 : Int32) &&& 31).toUInt32).toInt32).toUInt32 >>> ((1 : Int32) &&& 31).toUInt32).toInt32))))), vr a2, vi 1, .val (.int ((0 : Int32) + ((32 : Int32) - ((29 : Int32) - ((((x1.toUInt32 >>> ((2 : Int32) &&& 31).toUInt32).toInt32).toUInt32 >>> ((1 : Int32) &&& 31).toUInt32).toInt32))))), un, un]) 131 (hb hy d49_130) rfl rfl <| o_aloadN W11 132 (hb hy d49_131) rfl rfl rfl <| o_iloadN W11 133 (hb hy d49_132) rfl rfl <| o_iconst W11 (v := 1) 134 (hb hy d49_133) rfl rfl ?_
  refine o_iadd W11 (v := (((0 : Int32) + ((32 : Int32) - ((29 : Int32) - ((((x1.toUInt32 >>> ((2 : Int32) &&& 31).toUInt32).toInt32).toUInt32 >>> ((1 : Int32) &&& 31).toUInt32).toInt32)))) + 1)) 135 (hb hy d49_134) rfl rfl ?_
  have c12 := (z5.keep K9)
  have c13 := (z1.keep K9 nin0)
  refine o_putF W11 (w264 hw) Via.refl c13 c12 (Or.inl (w265 hw)) (w173 hw) (ty := .int) (v' := (.int (((0 : Int32) + ((32 : Int32) - ((29 : Int32) - ((((x1.toUInt32 >>> ((2 : Int32) &&& 31).toUInt32).toInt32).toUInt32 >>> ((1 : Int32) &&& 31).toUInt32).toInt32)))) + 1))) (by decide) rfl rfl z6 m0 tri 138 (hb hy d49_135) rfl ?_
  intro T14 h14 lo14 W14 R14
  have F14 := c13.same R14
  refine o_iloadN W14 139 (hb hy d49_138) rfl rfl ?_
  have c15 := (c10.other R14 (Or.inr (slot_ne (Or.inr (w181 hw)) (Or.inl (w265 hw)) (by decide) (t := .int) (t' := .int) (by decide) (by decide))))
  have c16 := ((z2.keep K9 nin0).other R14 (Or.inr (slot_ne (Or.inr (w184 hw)) (Or.inl (w265 hw)) (by decide) (t := (.array .int)) (t' := .int) (by decide) (by decide))))
  have c17 := (c12.wr R14)
  exact o_retI W14 hlk hret (hb hy d49_139) (by decide) (by decide) ⟨F14, c16, c15, rfl⟩
theorem rm90 (l : Launch) {Z a0} (hw : HW Z a0) (gO88 gO89 gO90 gO91 : Addr) (z0 z1 : ClassId) (a1 : Addr) (y1 : Int64) (h0 : Heap) (O0 : Old Z Z.heap.size h0) (z2 : Exa Z h0 a1 s0) (z3 : Fld Z h0 a1 s0 "scale" "I" (.int 9)) (z4 : Fld Z h0 a1 s0 "intVal" s5 .null) (z5 : Fld Z h0 a1 s0 s4 "J" (.long y1)) (hc2 : ¬ ((lcmpW y1 (0 : Int64)) = (0 : Int32))) (hc3 : (0 : Int32) < (lcmpW y1 (0 : Int64))) (hc4 : (0 : Int32) < (lcmpW y1 (16 : Int64))) (hc5 : ¬ ((lcmpW y1 (0 : Int64)) < (0 : Int32))) (hc6 : (((y1.toUInt64 >>> ((32 : Int32) &&& 0x3f).toInt64.toUInt64).toInt64).toInt32) = (0 : Int32)) (z6 : Sta Z Z.heap s2 s15 s5 (.ref gO88)) (z7 : Fld Z Z.heap gO88 s1 "mag" "[I" (.ref gO89)) (VgO89 : Arv Z Z.heap gO89 z0 .int (1 : Int32) [(.int 1000000000)] iZ) (hc9 : ¬ (((y1.toInt32) + (-2147483648 : Int32)) < (-1147483648 : Int32))) (hc10 : (-1147483648 : Int32) < ((y1.toInt32) + (-2147483648 : Int32))) (hc11 : ¬ ((((((y1.toInt32).toInt64) &&& (4294967295 : Int64)) / (((1000000000 : Int32).toInt64) &&& (4294967295 : Int64))).toInt32) = (0 : Int32))) (hc12 : (((((y1.toInt32).toInt64) &&& (4294967295 : Int64)) - (((((((y1.toInt32).toInt64) &&& (4294967295 : Int64)) / (((1000000000 : Int32).toInt64) &&& (4294967295 : Int64))).toInt32).toInt64) * (((1000000000 : Int32).toInt64) &&& (4294967295 : Int64)))).toInt32) = (0 : Int32)) (z8 : Fld Z Z.heap gO88 s1 "signum" "I" (.int 1)) (z9 : Sta Z Z.heap s1 "ZERO" s5 (.ref gO90)) (XgO90 : Exa Z Z.heap gO90 s1) (hc14 : (0 : Int32) < (((((y1.toInt32).toInt64) &&& (4294967295 : Int64)) / (((1000000000 : Int32).toInt64) &&& (4294967295 : Int64))).toInt32)) (hc15 : (((((y1.toInt32).toInt64) &&& (4294967295 : Int64)) / (((1000000000 : Int32).toInt64) &&& (4294967295 : Int64))).toInt32) < (65536 : Int32)) (hc16 : (((((y1.toInt32).toInt64) &&& (4294967295 : Int64)) / (((1000000000 : Int32).toInt64) &&& (4294967295 : Int64))).toInt32) < (256 : Int32)) (hc17 : (((((y1.toInt32).toInt64) &&& (4294967295 : Int64)) / (((1000000000 : Int32).toInt64) &&& (4294967295 : Int64))).toInt32) < (16 : Int32)) (hc18 : ¬ ((((((y1.toInt32).toInt64) &&& (4294967295 : Int64)) / (((1000000000 : Int32).toInt64) &&& (4294967295 : Int64))).toInt32) < (4 : Int32))) (hc20 : ¬ ((63 : Int32) < ((0 : Int32) + ((32 : Int32) - ((29 : Int32) - (((((((((y1.toInt32).toInt64) &&& (4294967295 : Int64)) / (((1000000000 : Int32).toInt64) &&& (4294967295 : Int64))).toInt32).toUInt32 >>> ((2 : Int32) &&& 31).toUInt32).toInt32).toUInt32 >>> ((1 : Int32) &&& 31).toUInt32).toInt32)))))) (z10 : Fld Z Z.heap gO90 s1 "mag" "[I" (.ref gO91)) (VgO91 : Arv Z Z.heap gO91 z1 .int (0 : Int32) [] iZ) (z11 : Fld Z Z.heap gO90 s1 "signum" "I" iZ) (hc27 : ¬ ((lcmpW ((((0 : Int64) + (((((((y1.toInt32).toInt64) &&& (4294967295 : Int64)) / (((1000000000 : Int32).toInt64) &&& (4294967295 : Int64))).toInt32).toInt64) &&& (4294967295 : Int64))) ^^^ (((0 : Int64) + (((((((y1.toInt32).toInt64) &&& (4294967295 : Int64)) / (((1000000000 : Int32).toInt64) &&& (4294967295 : Int64))).toInt32).toInt64) &&& (4294967295 : Int64))) + (0 : Int64))) &&& ((0 : Int64) ^^^ (((0 : Int64) + (((((((y1.toInt32).toInt64) &&& (4294967295 : Int64)) / (((1000000000 : Int32).toInt64) &&& (4294967295 : Int64))).toInt32).toInt64) &&& (4294967295 : Int64))) + (0 : Int64)))) (0 : Int64)) < (0 : Int32))) (hc28 : ¬ ((lcmpW ((((0 : Int64) + (((((((y1.toInt32).toInt64) &&& (4294967295 : Int64)) / (((1000000000 : Int32).toInt64) &&& (4294967295 : Int64))).toInt32).toInt64) &&& (4294967295 : Int64))) + (0 : Int64)) ||| (0 : Int64)) (0 : Int64)) = (0 : Int32))) :
    CtrN l Z mn59 jdk_2316_method_48_code 3 (some (.object s2)) [] (⟨6, 12, 36, 90⟩ : Room) #[(.ref a1)] h0 [] (fun v h => ∃ r1 : Addr, h0.size ≤ r1 ∧ Exa Z h r1 s2 ∧ Fld Z h r1 s2 "seconds" "J" (.long (((0 : Int64) + (((((((y1.toInt32).toInt64) &&& (4294967295 : Int64)) / (((1000000000 : Int32).toInt64) &&& (4294967295 : Int64))).toInt32).toInt64) &&& (4294967295 : Int64))) + (0 : Int64))) ∧ Fld Z h r1 s2 "nanos" "I" iZ ∧ v = some (.ref r1)) := by
  refine CtrN.intro (L0 := #[vr a1, un, un]) (plainFor_of_name pn1) O0 (fun _ => rfl) ?_
  intro p e s m below meth c T0 hy hml hret hlk hnm W0
  refine o_aloadN W0 1 (hb hy d30_0) rfl rfl rfl <| o_bipush W0 (v := 9) 3 (hb hy d30_1) (by decide) rfl ?_
  refine o_virtualC W0 (w147 hw) (w148 hw) (o_nf W0 rfl (w150 hw)) (w150 hw) (w149 hw) (by decide) z2 (w151 hw) (w70 hw) (rm35 l hw a1 y1 h0 W0.old z3 z2 z4 z5) 0 1 5 (by decide) (by rw [hml]; rfl) (lenOf pd12 rfl) [] rfl rfl 6 (hb hy d30_3) rfl rfl rfl all0 tri ?_
  intro v1 T1 h1 lo1 W1 K1 q1
  obtain ⟨r1_1, P1_0, P1_1, P1_2, P1_3, P1_4, P1_5, rfl⟩ := q1.2.2
  show Gl _ _ _ _ _ _ _ _ [(.ref r1_1)]
  refine o_virtualC W1 (w152 hw) (w153 hw) (o_nf W1 rfl (w155 hw)) (w155 hw) (w154 hw) (by decide) P1_1 (w156 hw) (w70 hw) (rm40 l hw r1_1 y1 h1 W1.old P1_1 P1_3 P1_5 P1_2 hc2 hc3 hc4 hc5 hc6) 0 3 12 (by decide) (by rw [hml]; rfl) (lenOf pd26 rfl) [] rfl rfl 9 (hb hy d30_6) rfl rfl rfl all0 tri ?_
  intro v7 T7 h7 lo7 W7 K7 q7
  obtain ⟨r1_7, r2_7, r3_7, P7_0, P7_1, P7_2, P7_3, P7_4, P7_5, P7_6, rfl⟩ := q7.2.2
  show Gl _ _ _ _ _ _ _ _ [(.ref r1_7)]
  refine o_astoreN W7 (L' := #[vr a1, vr r1_7, un]) 10 (hb hy d30_9) rfl rfl rfl <| o_aloadN W7 11 (hb hy d30_10) rfl rfl rfl ?_
  refine o_getS W7 (w185 hw) Via.refl (z6.ext W7.ox) 14 (hb hy d30_11) rfl ?_
  intro T8 W8
  refine o_virtualC W8 (w186 hw) (w187 hw) (o_nf W8 rfl (w189 hw)) (w189 hw) (w188 hw) (by decide) P7_2 (w190 hw) (w169 hw) (rm54 l hw gO88 gO89 gO90 z0 r1_7 r2_7 r3_7 (y1.toInt32) h7 W8.old z7 VgO89 P7_2 P7_4 P7_6 hc9 hc10 hc11 hc12 P7_3 z8 z9 XgO90) 0 11 34 (by decide) (by rw [hml]; rfl) (lenOf pd35 rfl) [] rfl rfl 17 (hb hy d30_14) rfl rfl rfl all0 tri ?_
  intro v13 T13 h13 lo13 W13 K13 q13
  obtain ⟨r1_13, r2_13, r3_13, r4_13, r5_13, P13_0, P13_1, P13_2, P13_3, P13_4, P13_5, P13_6, P13_7, P13_8, P13_9, rfl⟩ := q13.2.2
  show Gl _ _ _ _ _ _ _ _ [(.ref r1_13)]
  refine o_astoreN W13 (L' := #[vr a1, vr r1_7, vr r1_13]) 18 (hb hy d30_17) rfl rfl rfl <| o_aloadN W13 19 (hb hy d30_18) rfl rfl rfl <| o_iconst W13 (v := 0) 20 (hb hy d30_19) rfl rfl ?_
  refine o_aaload W13 P13_3 rfl (v := (.ref r2_13)) (i := 0) (by decide) (by decide) (by decide) rfl 21 (hb hy d30_20) rfl ?_
  refine o_virtualC W13 (w259 hw) (w260 hw) (o_nf W13 rfl (w262 hw)) (w262 hw) (w261 hw) (by decide) P13_5 (w263 hw) (w169 hw) (rm89 l hw r2_13 r3_13 r5_13 (((((y1.toInt32).toInt64) &&& (4294967295 : Int64)) / (((1000000000 : Int32).toInt64) &&& (4294967295 : Int64))).toInt32) h13 W13.old P13_8 P13_7 P13_9 hc14 hc15 hc16 hc17 hc18 P13_6 P13_5 (Nat.le_trans W8.zs P13_1)) 0 11 34 (by decide) (by rw [hml]; rfl) (lenOf pd9 rfl) [] rfl rfl 24 (hb hy d30_21) rfl rfl rfl (allS ⟨(Nat.le_trans W8.zs P13_1), (Or.inr (Nat.le_trans W8.keep.1 P13_1))⟩ all0) tri ?_
  intro v19 T19 h19 lo19 W19 K19 q19
  obtain ⟨P19_0, P19_1, P19_2, rfl⟩ := q19.2.2
  show Gl _ _ _ _ _ _ _ _ [(.int ((0 : Int32) + ((32 : Int32) - ((29 : Int32) - (((((((((y1.toInt32).toInt64) &&& (4294967295 : Int64)) / (((1000000000 : Int32).toInt64) &&& (4294967295 : Int64))).toInt32).toUInt32 >>> ((2 : Int32) &&& 31).toUInt32).toInt32).toUInt32 >>> ((1 : Int32) &&& 31).toUInt32).toInt32)))))]
  refine o_bipush W19 (v := 63) 26 (hb hy d30_24) (by decide) rfl <| o_icmpY W19 57 (hb hy d30_26) (XT.ii_le_t hc20) (by decide) rfl <| o_aloadN W19 58 (hb hy d30_57) rfl rfl rfl <| o_iconst W19 (v := 0) 59 (hb hy d30_58) rfl rfl ?_
  have c21 := (P13_5.keep K19)
  have c22 := (P13_3.keep K19 (ninS (Ne.symm (Exa.neArv P13_5 P13_3 (w173 hw))) nin0))
  refine o_aaload W19 c22 rfl (v := (.ref r2_13)) (i := 0) (by decide) (by decide) (by decide) rfl 60 (hb hy d30_59) rfl ?_
  have c23 := (P13_9.keep K19 (ninS (Ne.symm (Exa.neArv P13_5 P13_9 (w173 hw))) nin0))
  refine o_virtualC W19 (w274 hw) (w275 hw) (o_nf W19 rfl (w277 hw)) (w277 hw) (w276 hw) (by decide) c21 (w278 hw) (w169 hw) (rm61 l hw r2_13 r3_13 r5_13 (((((y1.toInt32).toInt64) &&& (4294967295 : Int64)) / (((1000000000 : Int32).toInt64) &&& (4294967295 : Int64))).toInt32) h19 W19.old c21 P19_1 c23 P19_2) 0 11 34 (by decide) (by rw [hml]; rfl) (lenOf pd7 rfl) [] rfl rfl 63 (hb hy d30_60) rfl rfl rfl all0 tri ?_
  intro v24 T24 h24 lo24 W24 K24 q24
  obtain rfl := q24.2.2
  show Gl _ _ _ _ _ _ _ _ [(.long ((0 : Int64) + (((((((y1.toInt32).toInt64) &&& (4294967295 : Int64)) / (((1000000000 : Int32).toInt64) &&& (4294967295 : Int64))).toInt32).toInt64) &&& (4294967295 : Int64))))]
  refine o_aloadN W24 64 (hb hy d30_63) rfl rfl rfl <| o_iconst W24 (v := 1) 65 (hb hy d30_64) rfl rfl ?_
  have c25 := (c22.keep K24 nin0)
  refine o_aaload W24 c25 rfl (v := (.ref gO90)) (i := 1) (by decide) (by decide) (by decide) rfl 66 (hb hy d30_65) rfl ?_
  refine o_virtualC W24 (w290 hw) (w291 hw) (o_nf W24 rfl (w293 hw)) (w293 hw) (w292 hw) (by decide) (XgO90.ext W24.ox) (w294 hw) (w169 hw) (rm64 l hw gO90 gO91 z1 h24 W24.old z10 VgO91 z11 XgO90) 2 11 34 (by decide) (by rw [hml]; rfl) (lenOf pd9 rfl) [(.long ((0 : Int64) + (((((((y1.toInt32).toInt64) &&& (4294967295 : Int64)) / (((1000000000 : Int32).toInt64) &&& (4294967295 : Int64))).toInt32).toInt64) &&& (4294967295 : Int64))))] rfl rfl 69 (hb hy d30_66) rfl rfl rfl all0 tri ?_
  intro v26 T26 h26 lo26 W26 K26 q26
  obtain rfl := q26.2.2
  show Gl _ _ _ _ _ _ _ _ [iZ, (.long ((0 : Int64) + (((((((y1.toInt32).toInt64) &&& (4294967295 : Int64)) / (((1000000000 : Int32).toInt64) &&& (4294967295 : Int64))).toInt32).toInt64) &&& (4294967295 : Int64))))]
  refine o_i2l W26 (v := 0) 70 (hb hy d30_69) (by decide) rfl ?_
  refine o_staticC W26 (w295 hw) (w296 hw) (w29 hw) (w297 hw) (by decide) (rm70 l hw ((0 : Int64) + (((((((y1.toInt32).toInt64) &&& (4294967295 : Int64)) / (((1000000000 : Int32).toInt64) &&& (4294967295 : Int64))).toInt32).toInt64) &&& (4294967295 : Int64))) h26 W26.old hc27 hc28) 0 12 36 (by decide) (by rw [hml]; rfl) (lenOf pd39 rfl) [] rfl rfl 73 (hb hy d30_70) rfl rfl rfl all0 tri ?_
  intro v29 T29 h29 lo29 W29 K29 q29
  obtain ⟨r1_29, P29_0, P29_1, P29_2, P29_3, rfl⟩ := q29.2.2
  show Gl _ _ _ _ _ _ _ _ [(.ref r1_29)]
  exact o_retA W29 hlk (v := (.ref r1_29)) hret rfl rfl (hb hy d30_73) (by decide) (by decide) ⟨r1_29, (Nat.le_trans W26.keep.1 P29_0), P29_1, P29_2, P29_3, rfl⟩
theorem rm91 (l : Launch) {Z a0} (hw : HW Z a0) (gO1 gO3 gO4 gO7 gO10 gO13 gO16 gO19 gO22 gO25 gO28 gO31 gO34 gO37 gO38 gO41 gO44 gO47 gO50 gO53 gO56 gO59 gO62 gO65 gO68 gO71 gO74 gO77 gO80 gO83 gO86 gO87 gO88 gO89 gO90 gO91 : Addr) (z0 z1 z2 z3 z4 z5 : ClassId) (h0 : Heap) (O0 : Old Z Z.heap.size h0) (z6 : Fld Z Z.heap gO1 s2 "seconds" "J" (.long 1)) (z7 : Sta Z Z.heap s0 s12 s7 (.ref gO3)) (VgO3 : Arv Z Z.heap gO3 z0 (.object s0) (11 : Int32) [(.ref gO4), (.ref gO7), (.ref gO10), (.ref gO13), (.ref gO16), (.ref gO19), (.ref gO22), (.ref gO25), (.ref gO28), (.ref gO31), (.ref gO34)] .null) (z8 : Fld Z Z.heap gO1 s2 "nanos" "I" iZ) (z9 : Sta Z Z.heap s0 s16 s7 (.ref gO37)) (VgO37 : Arv Z Z.heap gO37 z1 (.object s0) (16 : Int32) [(.ref gO38), (.ref gO41), (.ref gO44), (.ref gO47), (.ref gO50), (.ref gO53), (.ref gO56), (.ref gO59), (.ref gO62), (.ref gO65), (.ref gO68), (.ref gO71), (.ref gO74), (.ref gO77), (.ref gO80), (.ref gO83)] .null) (z10 : Fld Z Z.heap gO7 s0 s4 "J" (.long 1)) (z11 : Fld Z Z.heap gO65 s0 s4 "J" (.long 0)) (z12 : Fld Z Z.heap gO7 s0 "scale" "I" iZ) (z13 : Fld Z Z.heap gO65 s0 "scale" "I" (.int 9)) (z14 : Sta Z Z.heap s0 s13 "[J" (.ref gO86)) (z15 : Sta Z Z.heap s0 s14 "[J" (.ref gO87)) (VgO86 : Arv Z Z.heap gO86 z2 .long (19 : Int32) [(.long 1), (.long 10), (.long 100), (.long 1000), (.long 10000), (.long 100000), (.long 1000000), (.long 10000000), (.long 100000000), (.long 1000000000), (.long 10000000000), (.long 100000000000), (.long 1000000000000), (.long 10000000000000), (.long 100000000000000), (.long 1000000000000000), (.long 10000000000000000), (.long 100000000000000000), (.long 1000000000000000000)] (.long 0)) (VgO87 : Arv Z Z.heap gO87 z3 .long (19 : Int32) [(.long 9223372036854775807), (.long 922337203685477580), (.long 92233720368547758), (.long 9223372036854775), (.long 922337203685477), (.long 92233720368547), (.long 9223372036854), (.long 922337203685), (.long 92233720368), (.long 9223372036), (.long 922337203), (.long 92233720), (.long 9223372), (.long 922337), (.long 92233), (.long 9223), (.long 922), (.long 92), (.long 9)] (.long 0)) (XgO7 : Exa Z Z.heap gO7 s0) (XgO1 : Exa Z Z.heap gO1 s2) (z16 : Fld Z Z.heap gO16 s0 "scale" "I" iZ) (z17 : Fld Z Z.heap gO16 s0 s4 "J" (.long 4)) (z18 : Sta Z Z.heap s2 s15 s5 (.ref gO88)) (z19 : Fld Z Z.heap gO88 s1 "mag" "[I" (.ref gO89)) (VgO89 : Arv Z Z.heap gO89 z4 .int (1 : Int32) [(.int 1000000000)] iZ) (z20 : Fld Z Z.heap gO88 s1 "signum" "I" (.int 1)) (z21 : Sta Z Z.heap s1 "ZERO" s5 (.ref gO90)) (XgO90 : Exa Z Z.heap gO90 s1) (z22 : Fld Z Z.heap gO90 s1 "mag" "[I" (.ref gO91)) (VgO91 : Arv Z Z.heap gO91 z5 .int (0 : Int32) [] iZ) (z23 : Fld Z Z.heap gO90 s1 "signum" "I" iZ) :
    CtrN l Z mn2 jdk_2316_method_44_code 3 (some (.object s2)) [] (⟨8, 14, 46, 122⟩ : Room) #[(.ref gO1), (.long 4)] h0 [] (fun v h => ∃ r1 : Addr, h0.size ≤ r1 ∧ Exa Z h r1 s2 ∧ Fld Z h r1 s2 "seconds" "J" (.long 4) ∧ Fld Z h r1 s2 "nanos" "I" iZ ∧ v = some (.ref r1)) := by
  refine CtrN.intro (L0 := #[vr gO1, .val (.long 4), .second]) (plainFor_of_name pn1) O0 (fun _ => rfl) ?_
  intro p e s m below meth c T0 hy hml hret hlk hnm W0
  refine o_lloadN W0 1 (hb hy d6_0) rfl rfl <| o_lconst W0 (v := 0) 2 (hb hy d6_1) (by decide) rfl <| o_lcmp W0 (v := 1) 3 (hb hy d6_2) (by decide) rfl <| o_ifY W0 10 (hb hy d6_3) (XT.i0_ne_t (by decide)) (by decide) rfl <| o_lloadN W0 11 (hb hy d6_10) rfl rfl <| o_lconst W0 (v := 1) 12 (hb hy d6_11) (by decide) rfl ?_
  refine o_lcmp W0 (v := 1) 13 (hb hy d6_12) (by decide) rfl <| o_ifY W0 18 (hb hy d6_13) (XT.i0_ne_t (by decide)) (by decide) rfl <| o_aloadN W0 19 (hb hy d6_18) rfl rfl rfl ?_
  refine o_privateC W0 (w63 hw) (w64 hw) (w66 hw) (w65 hw) (w67 hw) (by decide) (XgO1.ext W0.ox) (w29 hw) (rm25 l hw gO1 gO3 gO4 gO7 gO10 gO13 gO16 gO19 gO22 gO25 gO28 gO31 gO34 gO37 gO38 gO41 gO44 gO47 gO50 gO53 gO56 gO59 gO62 gO65 gO68 gO71 gO74 gO77 gO80 gO83 gO86 gO87 z0 z1 z2 z3 h0 W0.old z6 z7 VgO3 z8 z9 VgO37 z10 z11 z12 z13 z14 z15 VgO86 VgO87 XgO7) 0 1 5 (by decide) (by rw [hml]; rfl) (lenOf pd20 rfl) [] rfl rfl 22 (hb hy d6_19) rfl rfl rfl all0 tri ?_
  intro v1 T1 h1 lo1 W1 K1 q1
  obtain ⟨r1_1, P1_0, P1_1, P1_2, P1_3, P1_4, P1_5, rfl⟩ := q1.2.2
  show Gl _ _ _ _ _ _ _ _ [(.ref r1_1)]
  refine o_lloadN W1 23 (hb hy d6_22) rfl rfl ?_
  refine o_staticC W1 (w68 hw) (w69 hw) (w70 hw) (w71 hw) (by decide) (rm82 l hw gO3 gO4 gO7 gO10 gO13 gO16 gO19 gO22 gO25 gO28 gO31 gO34 z0 h1 W1.old z7 VgO3) 1 1 5 (by decide) (by rw [hml]; rfl) (lenOf pd11 rfl) [(.ref r1_1)] rfl rfl 26 (hb hy d6_23) rfl rfl rfl all0 tri ?_
  intro v2 T2 h2 lo2 W2 K2 q2
  obtain rfl := q2.2.2
  show Gl _ _ _ _ _ _ _ _ [(.ref gO16), (.ref r1_1)]
  have c3 := (P1_3.keep K2 nin0)
  have c4 := (P1_2.keep K2 nin0)
  have c5 := (P1_1.keep K2)
  refine o_virtualC W2 (w125 hw) (w126 hw) (o_nf W2 rfl (w128 hw)) (w128 hw) (w127 hw) (by decide) c5 (w129 hw) (w70 hw) (rm86 l hw gO16 r1_1 (1000000000 : Int64) h2 W2.old c3 z16 c5 c4 (by decide) z17 (by decide) (by decide) (by decide) (by decide)) 0 2 10 (by decide) (by rw [hml]; rfl) (lenOf pd19 rfl) [] rfl rfl 29 (hb hy d6_26) rfl rfl rfl all0 tri ?_
  intro v6 T6 h6 lo6 W6 K6 q6
  obtain ⟨r1_6, P6_0, P6_1, P6_2, P6_3, P6_4, P6_5, rfl⟩ := q6.2.2
  rw [show ((1000000000 : Int64) * (4 : Int64)) = (4000000000 : Int64) from by decide] at P6_2
  show Gl _ _ _ _ _ _ _ _ [(.ref r1_6)]
  refine o_staticC W6 (w144 hw) (w145 hw) (w29 hw) (w146 hw) (by decide) (rm90 l hw gO88 gO89 gO90 gO91 z4 z5 r1_6 (4000000000 : Int64) h6 W6.old P6_1 P6_3 P6_5 P6_2 (by decide) (by decide) (by decide) (by decide) (by decide) z18 z19 VgO89 (by decide) (by decide) (by decide) (by decide) z20 z21 XgO90 (by decide) (by decide) (by decide) (by decide) (by decide) (by decide) z22 VgO91 z23 (by decide) (by decide)) 0 14 46 (by decide) (by rw [hml]; rfl) (lenOf pd40 rfl) [] rfl rfl 32 (hb hy d6_29) rfl rfl rfl all0 tri ?_
  intro v7 T7 h7 lo7 W7 K7 q7
  obtain ⟨r1_7, P7_0, P7_1, P7_2, P7_3, rfl⟩ := q7.2.2
  rw [show (((0 : Int64) + ((((((((4000000000 : Int64).toInt32).toInt64) &&& (4294967295 : Int64)) / (((1000000000 : Int32).toInt64) &&& (4294967295 : Int64))).toInt32).toInt64) &&& (4294967295 : Int64))) + (0 : Int64)) = (4 : Int64) from by decide] at P7_2
  show Gl _ _ _ _ _ _ _ _ [(.ref r1_7)]
  exact o_retA W7 hlk (v := (.ref r1_7)) hret rfl rfl (hb hy d6_32) (by decide) (by decide) ⟨r1_7, (Nat.le_trans W6.keep.1 P7_0), P7_1, P7_2, P7_3, rfl⟩
theorem rm92 (l : Launch) {Z a0} (hw : HW Z a0)  (h0 : Heap) (O0 : Old Z Z.heap.size h0) :
    CtrN l Z mn3 jdk_35_method_42_code 4 (some .int) [] (⟨0, 0, 0, 0⟩ : Room) #[(.long 4), (.long 10)] h0 [] (fun v h => v = some (.int (-1 : Int32))) := by
  refine CtrN.intro (L0 := #[.val (.long 4), .second, .val (.long 10), .second]) (plainFor_of_name pn2) O0 (fun _ => rfl) ?_
  intro p e s m below meth c T0 hy hml hret hlk hnm W0
  refine o_lloadN W0 1 (hb hy d8_0) rfl rfl <| o_lloadN W0 2 (hb hy d8_1) rfl rfl <| o_lcmp W0 (v := (-1 : Int32)) 3 (hb hy d8_2) (by decide) rfl <| o_ifN W0 6 (hb hy d8_3) (XT.i0_ge_f (by decide)) rfl <| o_iconst W0 (v := (-1 : Int32)) 7 (hb hy d8_6) (by decide) rfl <| o_goto W0 21 (hb hy d8_7) (by decide) rfl ?_
  exact o_retI W0 hlk hret (hb hy d8_21) (by decide) (by decide) rfl
theorem rm93 (l : Launch) {Z a0} (hw : HW Z a0) (gO2 a1 : Addr) (h0 : Heap) (O0 : Old Z Z.heap.size h0) (z0 : Fld Z h0 a1 s2 "seconds" "J" (.long 4)) (z1 : Fld Z Z.heap gO2 s2 "seconds" "J" (.long 10)) :
    CtrN l Z mn4 jdk_2316_method_66_code 3 (some .int) [] (⟨1, 0, 0, 15⟩ : Room) #[(.ref a1), (.ref gO2)] h0 [] (fun v h => v = some (.int (-1 : Int32))) := by
  refine CtrN.intro (L0 := #[vr a1, vr gO2, un]) (plainFor_of_name pn1) O0 (fun _ => rfl) ?_
  intro p e s m below meth c T0 hy hml hret hlk hnm W0
  refine o_aloadN W0 1 (hb hy d7_0) rfl rfl rfl ?_
  refine o_getF W0 (w38 hw) Via.refl z0 4 (hb hy d7_1) rfl ?_
  intro T1 W1
  refine o_aloadN W1 5 (hb hy d7_4) rfl rfl rfl ?_
  refine o_getF W1 (w38 hw) Via.refl (z1.ext W1.ox) 8 (hb hy d7_5) rfl ?_
  intro T2 W2
  refine o_staticC W2 (w40 hw) (w41 hw) (w42 hw) (w43 hw) (by decide) (rm92 l hw  h0 W2.old ) 0 0 0 (by decide) (by rw [hml]; rfl) (lenOf pd3 rfl) [] rfl rfl 11 (hb hy d7_8) rfl rfl rfl all0 tri ?_
  intro v3 T3 h3 lo3 W3 K3 q3
  obtain rfl := q3.2.2
  show Gl _ _ _ _ _ _ _ _ [(.int (-1 : Int32))]
  refine o_istoreN W3 (L' := #[vr a1, vr gO2, vi (-1 : Int32)]) 12 (hb hy d7_11) rfl rfl <| o_iloadN W3 13 (hb hy d7_12) rfl rfl <| o_ifN W3 16 (hb hy d7_13) (XT.i0_eq_f (by decide)) rfl <| o_iloadN W3 17 (hb hy d7_16) rfl rfl ?_
  exact o_retI W3 hlk hret (hb hy d7_17) (by decide) (by decide) rfl
theorem rm94 (l : Launch) {Z a0} (hw : HW Z a0) (gO1 gO2 gO3 gO4 gO7 gO10 gO13 gO16 gO19 gO22 gO25 gO28 gO31 gO34 gO37 gO38 gO41 gO44 gO47 gO50 gO53 gO56 gO59 gO62 gO65 gO68 gO71 gO74 gO77 gO80 gO83 gO86 gO87 gO88 gO89 gO90 gO91 : Addr) (z0 z1 z2 z3 z4 z5 : ClassId) (h0 : Heap) (O0 : Old Z Z.heap.size h0) (z6 : Sta Z Z.heap s6 "FIRST" s9 (.ref gO1)) (z7 : Fld Z Z.heap gO1 s2 "seconds" "J" (.long 1)) (z8 : Sta Z Z.heap s0 s12 s7 (.ref gO3)) (VgO3 : Arv Z Z.heap gO3 z0 (.object s0) (11 : Int32) [(.ref gO4), (.ref gO7), (.ref gO10), (.ref gO13), (.ref gO16), (.ref gO19), (.ref gO22), (.ref gO25), (.ref gO28), (.ref gO31), (.ref gO34)] .null) (z9 : Fld Z Z.heap gO1 s2 "nanos" "I" iZ) (z10 : Sta Z Z.heap s0 s16 s7 (.ref gO37)) (VgO37 : Arv Z Z.heap gO37 z1 (.object s0) (16 : Int32) [(.ref gO38), (.ref gO41), (.ref gO44), (.ref gO47), (.ref gO50), (.ref gO53), (.ref gO56), (.ref gO59), (.ref gO62), (.ref gO65), (.ref gO68), (.ref gO71), (.ref gO74), (.ref gO77), (.ref gO80), (.ref gO83)] .null) (z11 : Fld Z Z.heap gO7 s0 s4 "J" (.long 1)) (z12 : Fld Z Z.heap gO65 s0 s4 "J" (.long 0)) (z13 : Fld Z Z.heap gO7 s0 "scale" "I" iZ) (z14 : Fld Z Z.heap gO65 s0 "scale" "I" (.int 9)) (z15 : Sta Z Z.heap s0 s13 "[J" (.ref gO86)) (z16 : Sta Z Z.heap s0 s14 "[J" (.ref gO87)) (VgO86 : Arv Z Z.heap gO86 z2 .long (19 : Int32) [(.long 1), (.long 10), (.long 100), (.long 1000), (.long 10000), (.long 100000), (.long 1000000), (.long 10000000), (.long 100000000), (.long 1000000000), (.long 10000000000), (.long 100000000000), (.long 1000000000000), (.long 10000000000000), (.long 100000000000000), (.long 1000000000000000), (.long 10000000000000000), (.long 100000000000000000), (.long 1000000000000000000)] (.long 0)) (VgO87 : Arv Z Z.heap gO87 z3 .long (19 : Int32) [(.long 9223372036854775807), (.long 922337203685477580), (.long 92233720368547758), (.long 9223372036854775), (.long 922337203685477), (.long 92233720368547), (.long 9223372036854), (.long 922337203685), (.long 92233720368), (.long 9223372036), (.long 922337203), (.long 92233720), (.long 9223372), (.long 922337), (.long 92233), (.long 9223), (.long 922), (.long 92), (.long 9)] (.long 0)) (XgO7 : Exa Z Z.heap gO7 s0) (XgO1 : Exa Z Z.heap gO1 s2) (z17 : Fld Z Z.heap gO16 s0 "scale" "I" iZ) (z18 : Fld Z Z.heap gO16 s0 s4 "J" (.long 4)) (z19 : Sta Z Z.heap s2 s15 s5 (.ref gO88)) (z20 : Fld Z Z.heap gO88 s1 "mag" "[I" (.ref gO89)) (VgO89 : Arv Z Z.heap gO89 z4 .int (1 : Int32) [(.int 1000000000)] iZ) (z21 : Fld Z Z.heap gO88 s1 "signum" "I" (.int 1)) (z22 : Sta Z Z.heap s1 "ZERO" s5 (.ref gO90)) (XgO90 : Exa Z Z.heap gO90 s1) (z23 : Fld Z Z.heap gO90 s1 "mag" "[I" (.ref gO91)) (VgO91 : Arv Z Z.heap gO91 z5 .int (0 : Int32) [] iZ) (z24 : Fld Z Z.heap gO90 s1 "signum" "I" iZ) (z25 : Sta Z Z.heap s6 "MAX" s9 (.ref gO2)) (z26 : Fld Z Z.heap gO2 s2 "seconds" "J" (.long 10)) :
    CtrN l Z mn5 prog_3_method_2_code 2 (some (.object s2)) [] (⟨9, 14, 46, 136⟩ : Room) #[(.int 3)] h0 [] (fun v h => ∃ r1 : Addr, h0.size ≤ r1 ∧ Exa Z h r1 s2 ∧ Fld Z h r1 s2 "seconds" "J" (.long 4) ∧ Fld Z h r1 s2 "nanos" "I" iZ ∧ v = some (.ref r1)) := by
  refine CtrN.intro (L0 := #[vi 3, un]) (plainFor_of_name pn0) O0 (fun _ => rfl) ?_
  intro p e s m below meth c T0 hy hml hret hlk hnm W0
  refine o_iloadN W0 1 (hb hy d4_0) rfl rfl <| o_iconst W0 (v := 1) 2 (hb hy d4_1) rfl rfl <| o_icmpY W0 19 (hb hy d4_2) (XT.ii_ge_t (by decide)) (by decide) rfl ?_
  refine o_getS W0 (w19 hw) Via.refl (z6.ext W0.ox) 22 (hb hy d4_19) rfl ?_
  intro T1 W1
  refine o_lconst W1 (v := 1) 23 (hb hy d4_22) (by decide) rfl <| o_iloadN W1 24 (hb hy d4_23) rfl rfl <| o_iconst W1 (v := 1) 25 (hb hy d4_24) rfl rfl <| o_isub W1 (v := 2) 26 (hb hy d4_25) (by decide) rfl <| o_iconst W1 (v := 4) 27 (hb hy d4_26) rfl rfl ?_
  refine o_staticC W1 (w21 hw) (w22 hw) (w23 hw) (w24 hw) (by decide) (rm81 l hw  h0 W1.old ) 3 0 0 (by decide) (by rw [hml]; rfl) (lenOf pd1 rfl) [(.long 1), (.ref gO1)] rfl rfl 30 (hb hy d4_27) rfl rfl rfl all0 tri ?_
  intro v2 T2 h2 lo2 W2 K2 q2
  obtain rfl := q2.2.2
  show Gl _ _ _ _ _ _ _ _ [(.int 2), (.long 1), (.ref gO1)]
  refine o_lshl W2 (v := 4) 31 (hb hy d4_30) (by decide) rfl ?_
  refine o_virtualC W2 (w25 hw) (w26 hw) (o_nf W2 rfl (w28 hw)) (w28 hw) (w27 hw) (by decide) (XgO1.ext W2.ox) (w30 hw) (w29 hw) (rm91 l hw gO1 gO3 gO4 gO7 gO10 gO13 gO16 gO19 gO22 gO25 gO28 gO31 gO34 gO37 gO38 gO41 gO44 gO47 gO50 gO53 gO56 gO59 gO62 gO65 gO68 gO71 gO74 gO77 gO80 gO83 gO86 gO87 gO88 gO89 gO90 gO91 z0 z1 z2 z3 z4 z5 h2 W2.old z7 z8 VgO3 z9 z10 VgO37 z11 z12 z13 z14 z15 z16 VgO86 VgO87 XgO7 XgO1 z17 z18 z19 z20 VgO89 z21 z22 XgO90 z23 VgO91 z24) 0 14 46 (by decide) (by rw [hml]; rfl) (lenOf pd2 rfl) [] rfl rfl 34 (hb hy d4_31) rfl rfl rfl all0 tri ?_
  intro v3 T3 h3 lo3 W3 K3 q3
  obtain ⟨r1_3, P3_0, P3_1, P3_2, P3_3, rfl⟩ := q3.2.2
  show Gl _ _ _ _ _ _ _ _ [(.ref r1_3)]
  refine o_astoreN W3 (L' := #[vi 3, vr r1_3]) 35 (hb hy d4_34) rfl rfl rfl <| o_aloadN W3 36 (hb hy d4_35) rfl rfl rfl ?_
  refine o_getS W3 (w31 hw) Via.refl (z25.ext W3.ox) 39 (hb hy d4_36) rfl ?_
  intro T4 W4
  refine o_virtualC W4 (w33 hw) (w34 hw) (o_nf W4 rfl (w36 hw)) (w36 hw) (w35 hw) (by decide) P3_1 (w37 hw) (w29 hw) (rm93 l hw gO2 r1_3 h3 W4.old P3_2 z26) 0 14 46 (by decide) (by rw [hml]; rfl) (lenOf pd4 rfl) [] rfl rfl 42 (hb hy d4_39) rfl rfl rfl all0 tri ?_
  intro v5 T5 h5 lo5 W5 K5 q5
  obtain rfl := q5.2.2
  show Gl _ _ _ _ _ _ _ _ [(.int (-1 : Int32))]
  refine o_ifN W5 45 (hb hy d4_42) (XT.i0_ge_f (by decide)) rfl <| o_aloadN W5 46 (hb hy d4_45) rfl rfl rfl <| o_goto W5 52 (hb hy d4_46) (by decide) rfl ?_
  have c6 := (P3_1.keep K5)
  have c7 := (P3_2.keep K5 nin0)
  have c8 := (P3_3.keep K5 nin0)
  exact o_retA W5 hlk (v := (.ref r1_3)) hret rfl rfl (hb hy d4_52) (by decide) (by decide) ⟨r1_3, (Nat.le_trans W2.keep.1 P3_0), c6, c7, c8, rfl⟩
theorem rm95 (l : Launch) {Z a0} (hw : HW Z a0) (gO1 gO2 gO3 gO4 gO7 gO10 gO13 gO16 gO19 gO22 gO25 gO28 gO31 gO34 gO37 gO38 gO41 gO44 gO47 gO50 gO53 gO56 gO59 gO62 gO65 gO68 gO71 gO74 gO77 gO80 gO83 gO86 gO87 gO88 gO89 gO90 gO91 : Addr) (z0 z1 z2 z3 z4 z5 : ClassId) (a1 : Addr) (h0 : Heap) (O0 : Old Z Z.heap.size h0) (z6 : Fld Z h0 a1 s6 s11 "I" (.int 2)) (z7 : Exa Z h0 a1 s6) (z8 : Z.heap.size ≤ a1) (z9 : Sta Z Z.heap s6 "FIRST" s9 (.ref gO1)) (z10 : Fld Z Z.heap gO1 s2 "seconds" "J" (.long 1)) (z11 : Sta Z Z.heap s0 s12 s7 (.ref gO3)) (VgO3 : Arv Z Z.heap gO3 z0 (.object s0) (11 : Int32) [(.ref gO4), (.ref gO7), (.ref gO10), (.ref gO13), (.ref gO16), (.ref gO19), (.ref gO22), (.ref gO25), (.ref gO28), (.ref gO31), (.ref gO34)] .null) (z12 : Fld Z Z.heap gO1 s2 "nanos" "I" iZ) (z13 : Sta Z Z.heap s0 s16 s7 (.ref gO37)) (VgO37 : Arv Z Z.heap gO37 z1 (.object s0) (16 : Int32) [(.ref gO38), (.ref gO41), (.ref gO44), (.ref gO47), (.ref gO50), (.ref gO53), (.ref gO56), (.ref gO59), (.ref gO62), (.ref gO65), (.ref gO68), (.ref gO71), (.ref gO74), (.ref gO77), (.ref gO80), (.ref gO83)] .null) (z14 : Fld Z Z.heap gO7 s0 s4 "J" (.long 1)) (z15 : Fld Z Z.heap gO65 s0 s4 "J" (.long 0)) (z16 : Fld Z Z.heap gO7 s0 "scale" "I" iZ) (z17 : Fld Z Z.heap gO65 s0 "scale" "I" (.int 9)) (z18 : Sta Z Z.heap s0 s13 "[J" (.ref gO86)) (z19 : Sta Z Z.heap s0 s14 "[J" (.ref gO87)) (VgO86 : Arv Z Z.heap gO86 z2 .long (19 : Int32) [(.long 1), (.long 10), (.long 100), (.long 1000), (.long 10000), (.long 100000), (.long 1000000), (.long 10000000), (.long 100000000), (.long 1000000000), (.long 10000000000), (.long 100000000000), (.long 1000000000000), (.long 10000000000000), (.long 100000000000000), (.long 1000000000000000), (.long 10000000000000000), (.long 100000000000000000), (.long 1000000000000000000)] (.long 0)) (VgO87 : Arv Z Z.heap gO87 z3 .long (19 : Int32) [(.long 9223372036854775807), (.long 922337203685477580), (.long 92233720368547758), (.long 9223372036854775), (.long 922337203685477), (.long 92233720368547), (.long 9223372036854), (.long 922337203685), (.long 92233720368), (.long 9223372036), (.long 922337203), (.long 92233720), (.long 9223372), (.long 922337), (.long 92233), (.long 9223), (.long 922), (.long 92), (.long 9)] (.long 0)) (XgO7 : Exa Z Z.heap gO7 s0) (XgO1 : Exa Z Z.heap gO1 s2) (z20 : Fld Z Z.heap gO16 s0 "scale" "I" iZ) (z21 : Fld Z Z.heap gO16 s0 s4 "J" (.long 4)) (z22 : Sta Z Z.heap s2 s15 s5 (.ref gO88)) (z23 : Fld Z Z.heap gO88 s1 "mag" "[I" (.ref gO89)) (VgO89 : Arv Z Z.heap gO89 z4 .int (1 : Int32) [(.int 1000000000)] iZ) (z24 : Fld Z Z.heap gO88 s1 "signum" "I" (.int 1)) (z25 : Sta Z Z.heap s1 "ZERO" s5 (.ref gO90)) (XgO90 : Exa Z Z.heap gO90 s1) (z26 : Fld Z Z.heap gO90 s1 "mag" "[I" (.ref gO91)) (VgO91 : Arv Z Z.heap gO91 z5 .int (0 : Int32) [] iZ) (z27 : Fld Z Z.heap gO90 s1 "signum" "I" iZ) (z28 : Sta Z Z.heap s6 "MAX" s9 (.ref gO2)) (z29 : Fld Z Z.heap gO2 s2 "seconds" "J" (.long 10)) :
    CtrN l Z mn6 prog_3_method_3_code 1 (some (.object s2)) [] (⟨10, 14, 46, 149⟩ : Room) #[(.ref a1)] h0 [a1] (fun v h => ∃ r1 : Addr, h0.size ≤ r1 ∧ Fld Z h a1 s6 s11 "I" (.int 3) ∧ Exa Z h r1 s2 ∧ Fld Z h r1 s2 "seconds" "J" (.long 4) ∧ Fld Z h r1 s2 "nanos" "I" iZ ∧ v = some (.ref r1)) := by
  refine CtrN.intro (L0 := #[vr a1]) (plainFor_of_name pn0) O0 (fun _ => rfl) ?_
  intro p e s m below meth c T0 hy hml hret hlk hnm W0
  refine o_aloadN W0 1 (hb hy d3_0) rfl rfl rfl <| o_dup W0 2 (hb hy d3_1) rfl rfl ?_
  refine o_getF W0 (w14 hw) Via.refl z6 5 (hb hy d3_2) rfl ?_
  intro T1 W1
  refine o_iconst W1 (v := 1) 6 (hb hy d3_5) rfl rfl <| o_iadd W1 (v := 3) 7 (hb hy d3_6) (by decide) rfl ?_
  refine o_putF W1 (w14 hw) Via.refl z6 z7 (Or.inl (w15 hw)) (w1 hw) (ty := .int) (v' := (.int 3)) (by decide) rfl rfl z8 m0 tri 10 (hb hy d3_7) rfl ?_
  intro T2 h2 lo2 W2 R2
  have F2 := z6.same R2
  refine o_aloadN W2 11 (hb hy d3_10) rfl rfl rfl ?_
  refine o_getF W2 (w14 hw) Via.refl F2 14 (hb hy d3_11) rfl ?_
  intro T3 W3
  refine o_staticC W3 (w16 hw) (w17 hw) (w2 hw) (w18 hw) (by decide) (rm94 l hw gO1 gO2 gO3 gO4 gO7 gO10 gO13 gO16 gO19 gO22 gO25 gO28 gO31 gO34 gO37 gO38 gO41 gO44 gO47 gO50 gO53 gO56 gO59 gO62 gO65 gO68 gO71 gO74 gO77 gO80 gO83 gO86 gO87 gO88 gO89 gO90 gO91 z0 z1 z2 z3 z4 z5 h2 W3.old z9 z10 z11 VgO3 z12 z13 VgO37 z14 z15 z16 z17 z18 z19 VgO86 VgO87 XgO7 XgO1 z20 z21 z22 z23 VgO89 z24 z25 XgO90 z26 VgO91 z27 z28 z29) 0 14 46 (by decide) (by rw [hml]; rfl) (lenOf pd5 rfl) [] rfl rfl 17 (hb hy d3_14) rfl rfl rfl all0 tri ?_
  intro v4 T4 h4 lo4 W4 K4 q4
  obtain ⟨r1_4, P4_0, P4_1, P4_2, P4_3, rfl⟩ := q4.2.2
  show Gl _ _ _ _ _ _ _ _ [(.ref r1_4)]
  have c5 := (F2.keep K4 nin0)
  have c6 := ((z7.wr R2).keep K4)
  exact o_retA W4 hlk (v := (.ref r1_4)) hret rfl rfl (hb hy d3_17) (by decide) (by decide) ⟨r1_4, (Nat.le_trans W3.keep.1 P4_0), c5, P4_1, P4_2, P4_3, rfl⟩
theorem rm96 (l : Launch) {Z a0} (hw : HW Z a0) (a1 : Addr) (h0 : Heap) (O0 : Old Z Z.heap.size h0) (z0 : Fld Z h0 a1 s2 "seconds" "J" (.long 4)) :
    CtrN l Z mn7 jdk_2316_method_23_code 1 (some .long) [] (⟨0, 0, 0, 0⟩ : Room) #[(.ref a1)] h0 [] (fun v h => v = some (.long 4)) := by
  refine CtrN.intro (L0 := #[vr a1]) (plainFor_of_name pn1) O0 (fun _ => rfl) ?_
  intro p e s m below meth c T0 hy hml hret hlk hnm W0
  refine o_aloadN W0 1 (hb hy d10_0) rfl rfl rfl ?_
  refine o_getF W0 (w38 hw) Via.refl z0 4 (hb hy d10_1) rfl ?_
  intro T1 W1
  exact o_retJ W1 hlk hret (hb hy d10_4) (by decide) (by decide) rfl
theorem rm97 (l : Launch) {Z a0} (hw : HW Z a0)  (h0 : Heap) (O0 : Old Z Z.heap.size h0) :
    CtrN l Z mn8 method_2_code 1 (some .long) [] (⟨0, 0, 0, 0⟩ : Room) #[(.int 3)] h0 [] (fun v h => v = some (.long 4)) := by
  refine CtrN.intro (L0 := #[vi 3]) (plainFor_of_name pn3) O0 (fun _ => rfl) ?_
  intro p e s m below meth c T0 hy hml hret hlk hnm W0
  refine o_iloadN W0 1 (hb hy d11_0) rfl rfl <| o_iconst W0 (v := 1) 2 (hb hy d11_1) rfl rfl <| o_icmpY W0 7 (hb hy d11_2) (XT.ii_ne_t (by decide)) (by decide) rfl <| o_iloadN W0 8 (hb hy d11_7) rfl rfl <| o_iconst W0 (v := 2) 9 (hb hy d11_8) rfl rfl <| o_icmpY W0 16 (hb hy d11_9) (XT.ii_ne_t (by decide)) (by decide) rfl ?_
  refine o_iloadN W0 17 (hb hy d11_16) rfl rfl <| o_iconst W0 (v := 3) 18 (hb hy d11_17) rfl rfl <| o_icmpN W0 21 (hb hy d11_18) (XT.ii_ne_f (by decide)) rfl <| o_ldcJ W0 (w319 hw) 24 (hb hy d11_21) rfl ?_
  exact o_retJ W0 hlk hret (hb hy d11_24) (by decide) (by decide) rfl
theorem rm98 (l : Launch) {Z a0} (hw : HW Z a0) (a1 : Addr) (h0 : Heap) (O0 : Old Z Z.heap.size h0) (z0 : Exa Z h0 a1 s2) (z1 : Fld Z h0 a1 s2 "seconds" "J" (.long 4)) (z2 : Fld Z h0 a1 s2 "nanos" "I" iZ) :
    CtrN l Z mn10 method_3_code 2 (some .boolean) [] (⟨1, 0, 0, 14⟩ : Room) #[(.ref a1), (.int 3)] h0 [] (fun v h => v = some (.int 1)) := by
  refine CtrN.intro (L0 := #[vr a1, vi 3]) (plainFor_of_name pn3) O0 (fun _ => rfl) ?_
  intro p e s m below meth c T0 hy hml hret hlk hnm W0
  refine o_aloadN W0 1 (hb hy d9_0) rfl rfl rfl ?_
  refine o_ifnullN W0 4 (hb hy d9_1) rfl ?_
  refine o_aloadN W0 5 (hb hy d9_4) rfl rfl rfl ?_
  refine o_virtualC W0 (w48 hw) (w49 hw) (o_nf W0 rfl (w51 hw)) (w51 hw) (w50 hw) (by decide) z0 (w52 hw) (w29 hw) (rm96 l hw a1 h0 W0.old z1) 0 0 0 (by decide) (by rw [hml]; rfl) (lenOf pd7 rfl) [] rfl rfl 8 (hb hy d9_5) rfl rfl rfl all0 tri ?_
  intro v1 T1 h1 lo1 W1 K1 q1
  obtain rfl := q1.2.2
  show Gl _ _ _ _ _ _ _ _ [(.long 4)]
  refine o_iloadN W1 9 (hb hy d9_8) rfl rfl ?_
  refine o_staticC W1 (w53 hw) (w54 hw) (w46 hw) (w55 hw) (by decide) (rm97 l hw  h1 W1.old ) 2 0 0 (by decide) (by rw [hml]; rfl) (lenOf pd8 rfl) [(.long 4)] rfl rfl 12 (hb hy d9_9) rfl rfl rfl all0 tri ?_
  intro v2 T2 h2 lo2 W2 K2 q2
  obtain rfl := q2.2.2
  show Gl _ _ _ _ _ _ _ _ [(.long 4), (.long 4)]
  refine o_lcmp W2 (v := 0) 13 (hb hy d9_12) (by decide) rfl <| o_ifN W2 16 (hb hy d9_13) (XT.i0_ne_f (by decide)) rfl <| o_aloadN W2 17 (hb hy d9_16) rfl rfl rfl ?_
  have c3 := ((z2.keep K1 nin0).keep K2 nin0)
  have c4 := ((z0.keep K1).keep K2)
  refine o_virtualC W2 (w56 hw) (w57 hw) (o_nf W2 rfl (w59 hw)) (w59 hw) (w58 hw) (by decide) c4 (w60 hw) (w29 hw) (rm79 l hw a1 h2 W2.old c3) 0 0 0 (by decide) (by rw [hml]; rfl) (lenOf pd9 rfl) [] rfl rfl 20 (hb hy d9_17) rfl rfl rfl all0 tri ?_
  intro v5 T5 h5 lo5 W5 K5 q5
  obtain rfl := q5.2.2
  show Gl _ _ _ _ _ _ _ _ [iZ]
  refine o_ifN W5 23 (hb hy d9_20) (XT.i0_ne_f (by decide)) rfl <| o_iconst W5 (v := 1) 24 (hb hy d9_23) rfl rfl <| o_goto W5 28 (hb hy d9_24) (by decide) rfl ?_
  exact o_retN W5 hlk (t := .boolean) hret (by simp) (z' := (1 : Int32)) (by decide) (hb hy d9_28) (by decide) (by decide) rfl
theorem rm99 (l : Launch) {Z a0} (hw : HW Z a0)  (h0 : Heap) (O0 : Old Z Z.heap.size h0) :
    CtrN l Z mn1 jdk_29_method_69_code 2 (some .int) [] (⟨0, 0, 0, 0⟩ : Room) #[(.int 3), (.int 4)] h0 [] (fun v h => v = some (.int 3)) := by
  refine CtrN.intro (L0 := #[vi 3, vi 4]) (Jvm.Free.JP.mathPlain rfl (by decide +kernel)) O0 (fun _ => rfl) ?_
  intro p e s m below meth c T0 hy hml hret hlk hnm W0
  refine o_iloadN W0 1 (hb hy d5_0) rfl rfl <| o_iloadN W0 2 (hb hy d5_1) rfl rfl <| o_icmpN W0 5 (hb hy d5_2) (XT.ii_gt_f (by decide)) rfl <| o_iloadN W0 6 (hb hy d5_5) rfl rfl <| o_goto W0 10 (hb hy d5_6) (by decide) rfl ?_
  exact o_retI W0 hlk hret (hb hy d5_10) (by decide) (by decide) rfl
theorem rm100 (l : Launch) {Z a0} (hw : HW Z a0) (gO3 gO4 gO7 gO10 gO13 gO16 gO19 gO22 gO25 gO28 gO31 gO34 : Addr) (z0 : ClassId) (h0 : Heap) (O0 : Old Z Z.heap.size h0) (z1 : Sta Z Z.heap s0 s12 s7 (.ref gO3)) (VgO3 : Arv Z Z.heap gO3 z0 (.object s0) (11 : Int32) [(.ref gO4), (.ref gO7), (.ref gO10), (.ref gO13), (.ref gO16), (.ref gO19), (.ref gO22), (.ref gO25), (.ref gO28), (.ref gO31), (.ref gO34)] .null) :
    CtrN l Z mn11 jdk_17_method_21_code 2 (some (.object s0)) [] (⟨0, 0, 0, 0⟩ : Room) #[(.long 8)] h0 [] (fun v h => v = some (.ref gO28)) := by
  refine CtrN.intro (L0 := #[.val (.long 8), .second]) (plainFor_of_name pn4) O0 (fun _ => rfl) ?_
  intro p e s m below meth c T0 hy hml hret hlk hnm W0
  refine o_lloadN W0 1 (hb hy d14_0) rfl rfl <| o_lconst W0 (v := 0) 2 (hb hy d14_1) (by decide) rfl <| o_lcmp W0 (v := 1) 3 (hb hy d14_2) (by decide) rfl <| o_ifN W0 6 (hb hy d14_3) (XT.i0_lt_f (by decide)) rfl <| o_lloadN W0 7 (hb hy d14_6) rfl rfl ?_
  refine o_getS W0 (w72 hw) Via.refl (z1.ext W0.ox) 10 (hb hy d14_7) rfl ?_
  intro T1 W1
  refine o_len W1 (VgO3.ext W1.ox) 11 (hb hy d14_10) rfl <| o_i2l W1 (v := 11) 12 (hb hy d14_11) (by decide) rfl <| o_lcmp W1 (v := (-1 : Int32)) 13 (hb hy d14_12) (by decide) rfl <| o_ifN W1 16 (hb hy d14_13) (XT.i0_ge_f (by decide)) rfl ?_
  refine o_getS W1 (w72 hw) Via.refl (z1.ext W1.ox) 19 (hb hy d14_16) rfl ?_
  intro T2 W2
  refine o_lloadN W2 20 (hb hy d14_19) rfl rfl <| o_l2i W2 (v := 8) 21 (hb hy d14_20) (by decide) rfl ?_
  refine o_aaload W2 (VgO3.ext W2.ox) rfl (v := (.ref gO28)) (i := 8) (by decide) (by decide) (by decide) rfl 22 (hb hy d14_21) rfl ?_
  exact o_retA W2 hlk (v := (.ref gO28)) hret rfl rfl (hb hy d14_22) (by decide) (by decide) rfl
theorem rm101 (l : Launch) {Z a0} (hw : HW Z a0)  (h0 : Heap) (O0 : Old Z Z.heap.size h0) :
    CtrN l Z mn24 jdk_29_method_61_code 2 (some .long) [] (⟨0, 0, 0, 0⟩ : Room) #[(.long 8)] h0 [] (fun v h => v = some (.long 8)) := by
  refine CtrN.intro (L0 := #[.val (.long 8), .second]) (Jvm.Free.JP.mathPlain rfl (by decide +kernel)) O0 (fun _ => rfl) ?_
  intro p e s m below meth c T0 hy hml hret hlk hnm W0
  refine o_lloadN W0 1 (hb hy d29_0) rfl rfl <| o_lconst W0 (v := 0) 2 (hb hy d29_1) (by decide) rfl <| o_lcmp W0 (v := 1) 3 (hb hy d29_2) (by decide) rfl <| o_ifY W0 11 (hb hy d29_3) (XT.i0_ge_t (by decide)) (by decide) rfl <| o_lloadN W0 12 (hb hy d29_11) rfl rfl ?_
  exact o_retJ W0 hlk hret (hb hy d29_12) (by decide) (by decide) rfl
theorem rm102 (l : Launch) {Z a0} (hw : HW Z a0) (y1 : Int64) (h0 : Heap) (O0 : Old Z Z.heap.size h0) (hc1 : ¬ ((lcmpW y1 (0 : Int64)) < (0 : Int32))) (hc4 : (lcmpW (((y1 ||| (8 : Int64)).toUInt64 >>> ((31 : Int32) &&& 0x3f).toInt64.toUInt64).toInt64) (0 : Int64)) = (0 : Int32)) :
    CtrN l Z mn25 jdk_17_method_156_code 10 (some .long) [] (⟨1, 0, 0, 13⟩ : Room) #[(.long y1), (.long 8)] h0 [] (fun v h => v = some (.long (y1 * (8 : Int64)))) := by
  refine CtrN.intro (L0 := #[.val (.long y1), .second, .val (.long 8), .second, un, un, un, un, un, un]) (plainFor_of_name pn4) O0 (fun _ => rfl) ?_
  intro p e s m below meth c T0 hy hml hret hlk hnm W0
  refine o_lloadN W0 1 (hb hy d28_0) rfl rfl <| o_lloadN W0 2 (hb hy d28_1) rfl rfl <| o_lmul W0 (v := (y1 * (8 : Int64))) 3 (hb hy d28_2) rfl rfl <| o_lstore W0 (L' := #[.val (.long y1), .second, .val (.long 8), .second, .val (.long (y1 * (8 : Int64))), .second, un, un, un, un]) 5 (hb hy d28_3) rfl rfl <| o_lloadN W0 6 (hb hy d28_5) rfl rfl ?_
  refine o_staticC W0 (w141 hw) (w142 hw) (w23 hw) (w143 hw) (by decide) (rm28 l hw y1 h0 W0.old hc1) 0 0 0 (by decide) (by rw [hml]; rfl) (lenOf pd22 rfl) [] rfl rfl 9 (hb hy d28_6) rfl rfl rfl all0 tri ?_
  intro v2 T2 h2 lo2 W2 K2 q2
  obtain rfl := q2.2.2
  show Gl _ _ _ _ _ _ _ _ [(.long y1)]
  refine o_lstore W2 (L' := #[.val (.long y1), .second, .val (.long 8), .second, .val (.long (y1 * (8 : Int64))), .second, .val (.long y1), .second, un, un]) 11 (hb hy d28_9) rfl rfl <| o_lloadN W2 12 (hb hy d28_11) rfl rfl ?_
  refine o_staticC W2 (w141 hw) (w142 hw) (w23 hw) (w143 hw) (by decide) (rm101 l hw  h2 W2.old ) 0 0 0 (by decide) (by rw [hml]; rfl) (lenOf pd22 rfl) [] rfl rfl 15 (hb hy d28_12) rfl rfl rfl all0 tri ?_
  intro v3 T3 h3 lo3 W3 K3 q3
  obtain rfl := q3.2.2
  show Gl _ _ _ _ _ _ _ _ [(.long 8)]
  refine o_lstore W3 (L' := #[.val (.long y1), .second, .val (.long 8), .second, .val (.long (y1 * (8 : Int64))), .second, .val (.long y1), .second, .val (.long 8), .second]) 17 (hb hy d28_15) rfl rfl <| o_lload W3 19 (hb hy d28_17) rfl rfl <| o_lload W3 21 (hb hy d28_19) rfl rfl <| o_lor W3 (v := (y1 ||| (8 : Int64))) 22 (hb hy d28_21) rfl rfl <| o_bipush W3 (v := 31) 24 (hb hy d28_22) (by decide) rfl <| o_lushr W3 (v := (((y1 ||| (8 : Int64)).toUInt64 >>> ((31 : Int32) &&& 0x3f).toInt64.toUInt64).toInt64)) 25 (hb hy d28_24) rfl rfl ?_
  refine o_lconst W3 (v := 0) 26 (hb hy d28_25) (by decide) rfl <| o_lcmp W3 (v := (lcmpW (((y1 ||| (8 : Int64)).toUInt64 >>> ((31 : Int32) &&& 0x3f).toInt64.toUInt64).toInt64) (0 : Int64))) 27 (hb hy d28_26) rfl rfl <| o_ifY W3 45 (hb hy d28_27) (XT.i0_eq_t hc4) (by decide) rfl <| o_lload W3 47 (hb hy d28_45) rfl rfl ?_
  exact o_retJ W3 hlk hret (hb hy d28_47) (by decide) (by decide) rfl
theorem rm103 (l : Launch) {Z a0} (hw : HW Z a0) (y1 : Int64) (h0 : Heap) (O0 : Old Z Z.heap.size h0) (hc1 : ¬ ((lcmpW y1 (0 : Int64)) < (0 : Int32))) (hc2 : (lcmpW (((y1 ||| (8 : Int64)).toUInt64 >>> ((31 : Int32) &&& 0x3f).toInt64.toUInt64).toInt64) (0 : Int64)) = (0 : Int32)) (hc4 : ¬ ((lcmpW (y1 * (8 : Int64)) (-9223372036854775808 : Int64)) = (0 : Int32))) (hc5 : ¬ ((lcmpW (y1 * (8 : Int64)) (0 : Int64)) = (0 : Int32))) :
    CtrN l Z mn26 jdk_17_method_157_code 7 (some (.object s0)) [] (⟨4, 1, 5, 56⟩ : Room) #[(.long y1), (.long 8), (.int 9)] h0 [] (fun v h => ∃ r1 : Addr, h0.size ≤ r1 ∧ Exa Z h r1 s0 ∧ Fld Z h r1 s0 s4 "J" (.long (y1 * (8 : Int64))) ∧ Fld Z h r1 s0 "scale" "I" (.int 9) ∧ Fld Z h r1 s0 s10 "I" iZ ∧ Fld Z h r1 s0 "intVal" s5 .null ∧ v = some (.ref r1)) := by
  refine CtrN.intro (L0 := #[.val (.long y1), .second, .val (.long 8), .second, vi 9, un, un]) (plainFor_of_name pn4) O0 (fun _ => rfl) ?_
  intro p e s m below meth c T0 hy hml hret hlk hnm W0
  refine o_lloadN W0 1 (hb hy d27_0) rfl rfl <| o_lloadN W0 2 (hb hy d27_1) rfl rfl ?_
  refine o_staticC W0 (w138 hw) (w139 hw) (w70 hw) (w140 hw) (by decide) (rm102 l hw y1 h0 W0.old hc1 hc2) 0 0 0 (by decide) (by rw [hml]; rfl) (lenOf pd15 rfl) [] rfl rfl 5 (hb hy d27_2) rfl rfl rfl all0 tri ?_
  intro v3 T3 h3 lo3 W3 K3 q3
  obtain rfl := q3.2.2
  show Gl _ _ _ _ _ _ _ _ [(.long (y1 * (8 : Int64)))]
  refine o_lstore W3 (L' := #[.val (.long y1), .second, .val (.long 8), .second, vi 9, .val (.long (y1 * (8 : Int64))), .second]) 7 (hb hy d27_5) rfl rfl <| o_lload W3 9 (hb hy d27_7) rfl rfl <| o_ldcJ W3 (w87 hw) 12 (hb hy d27_9) rfl <| o_lcmp W3 (v := (lcmpW (y1 * (8 : Int64)) (-9223372036854775808 : Int64))) 13 (hb hy d27_12) rfl rfl <| o_ifN W3 16 (hb hy d27_13) (XT.i0_eq_f hc4) rfl <| o_lload W3 18 (hb hy d27_16) rfl rfl ?_
  refine o_iload W3 20 (hb hy d27_18) rfl rfl ?_
  refine o_staticC W3 (w107 hw) (w74 hw) (w70 hw) (w75 hw) (by decide) (rm21 l hw (y1 * (8 : Int64)) h3 W3.old hc5 hc4) 0 1 5 (by decide) (by rw [hml]; rfl) (lenOf pd13 rfl) [] rfl rfl 23 (hb hy d27_20) rfl rfl rfl all0 tri ?_
  intro v6 T6 h6 lo6 W6 K6 q6
  obtain ⟨r1_6, P6_0, P6_1, P6_2, P6_3, P6_4, P6_5, rfl⟩ := q6.2.2
  show Gl _ _ _ _ _ _ _ _ [(.ref r1_6)]
  exact o_retA W6 hlk (v := (.ref r1_6)) hret rfl rfl (hb hy d27_23) (by decide) (by decide) ⟨r1_6, (Nat.le_trans W3.keep.1 P6_0), P6_1, P6_2, P6_3, P6_4, P6_5, rfl⟩
theorem rm104 (l : Launch) {Z a0} (hw : HW Z a0) (gO28 a1 : Addr) (y1 : Int64) (h0 : Heap) (O0 : Old Z Z.heap.size h0) (z0 : Fld Z h0 a1 s0 "scale" "I" (.int 9)) (z1 : Fld Z Z.heap gO28 s0 "scale" "I" iZ) (z2 : Exa Z h0 a1 s0) (z3 : Fld Z h0 a1 s0 s4 "J" (.long y1)) (hc6 : ¬ ((lcmpW y1 (-9223372036854775808 : Int64)) = (0 : Int32))) (z4 : Fld Z Z.heap gO28 s0 s4 "J" (.long 8)) (hc10 : ¬ ((lcmpW y1 (0 : Int64)) < (0 : Int32))) (hc11 : (lcmpW (((y1 ||| (8 : Int64)).toUInt64 >>> ((31 : Int32) &&& 0x3f).toInt64.toUInt64).toInt64) (0 : Int64)) = (0 : Int32)) (hc12 : ¬ ((lcmpW (y1 * (8 : Int64)) (-9223372036854775808 : Int64)) = (0 : Int32))) (hc13 : ¬ ((lcmpW (y1 * (8 : Int64)) (0 : Int64)) = (0 : Int32))) :
    CtrN l Z mn27 jdk_17_method_31_code 3 (some (.object s0)) [] (⟨5, 1, 5, 74⟩ : Room) #[(.ref a1), (.ref gO28)] h0 [] (fun v h => ∃ r1 : Addr, h0.size ≤ r1 ∧ Exa Z h r1 s0 ∧ Fld Z h r1 s0 s4 "J" (.long (y1 * (8 : Int64))) ∧ Fld Z h r1 s0 "scale" "I" (.int 9) ∧ Fld Z h r1 s0 s10 "I" iZ ∧ Fld Z h r1 s0 "intVal" s5 .null ∧ v = some (.ref r1)) := by
  refine CtrN.intro (L0 := #[vr a1, vr gO28, un]) (plainFor_of_name pn4) O0 (fun _ => rfl) ?_
  intro p e s m below meth c T0 hy hml hret hlk hnm W0
  refine o_aloadN W0 1 (hb hy d25_0) rfl rfl rfl <| o_aloadN W0 2 (hb hy d25_1) rfl rfl rfl ?_
  refine o_getF W0 (w88 hw) Via.refl z0 5 (hb hy d25_2) rfl ?_
  intro T1 W1
  refine o_i2l W1 (v := 9) 6 (hb hy d25_5) (by decide) rfl <| o_aloadN W1 7 (hb hy d25_6) rfl rfl rfl ?_
  refine o_getF W1 (w88 hw) Via.refl (z1.ext W1.ox) 10 (hb hy d25_7) rfl ?_
  intro T2 W2
  refine o_i2l W2 (v := 0) 11 (hb hy d25_10) (by decide) rfl <| o_ladd W2 (v := 9) 12 (hb hy d25_11) (by decide) rfl ?_
  refine o_privateC W2 (w130 hw) (w131 hw) (w133 hw) (w132 hw) (w134 hw) (by decide) z2 (w70 hw) (rm27 l hw a1 h0 W2.old ) 0 0 0 (by decide) (by rw [hml]; rfl) (lenOf pd21 rfl) [] rfl rfl 15 (hb hy d25_12) rfl rfl rfl all0 tri ?_
  intro v3 T3 h3 lo3 W3 K3 q3
  obtain rfl := q3.2.2
  show Gl _ _ _ _ _ _ _ _ [(.int 9)]
  refine o_istoreN W3 (L' := #[vr a1, vr gO28, vi 9]) 16 (hb hy d25_15) rfl rfl <| o_aloadN W3 17 (hb hy d25_16) rfl rfl rfl ?_
  have c4 := (z3.keep K3 nin0)
  refine o_getF W3 (w85 hw) Via.refl c4 20 (hb hy d25_17) rfl ?_
  intro T5 W5
  refine o_ldcJ W5 (w87 hw) 23 (hb hy d25_20) rfl <| o_lcmp W5 (v := (lcmpW y1 (-9223372036854775808 : Int64))) 24 (hb hy d25_23) rfl rfl <| o_ifN W5 27 (hb hy d25_24) (XT.i0_eq_f hc6) rfl <| o_aloadN W5 28 (hb hy d25_27) rfl rfl rfl ?_
  refine o_getF W5 (w85 hw) Via.refl (z4.ext W5.ox) 31 (hb hy d25_28) rfl ?_
  intro T7 W7
  refine o_ldcJ W7 (w87 hw) 34 (hb hy d25_31) rfl <| o_lcmp W7 (v := 1) 35 (hb hy d25_34) (by decide) rfl <| o_ifN W7 38 (hb hy d25_35) (XT.i0_eq_f (by decide)) rfl <| o_aloadN W7 39 (hb hy d25_38) rfl rfl rfl ?_
  refine o_getF W7 (w85 hw) Via.refl c4 42 (hb hy d25_39) rfl ?_
  intro T8 W8
  refine o_aloadN W8 43 (hb hy d25_42) rfl rfl rfl ?_
  refine o_getF W8 (w85 hw) Via.refl (z4.ext W8.ox) 46 (hb hy d25_43) rfl ?_
  intro T9 W9
  refine o_iloadN W9 47 (hb hy d25_46) rfl rfl ?_
  refine o_staticC W9 (w135 hw) (w136 hw) (w70 hw) (w137 hw) (by decide) (rm103 l hw y1 h3 W9.old hc10 hc11 hc12 hc13) 0 1 5 (by decide) (by rw [hml]; rfl) (lenOf pd17 rfl) [] rfl rfl 50 (hb hy d25_47) rfl rfl rfl all0 tri ?_
  intro v14 T14 h14 lo14 W14 K14 q14
  obtain ⟨r1_14, P14_0, P14_1, P14_2, P14_3, P14_4, P14_5, rfl⟩ := q14.2.2
  show Gl _ _ _ _ _ _ _ _ [(.ref r1_14)]
  exact o_retA W14 hlk (v := (.ref r1_14)) hret rfl rfl (hb hy d25_50) (by decide) (by decide) ⟨r1_14, (Nat.le_trans W9.keep.1 P14_0), P14_1, P14_2, P14_3, P14_4, P14_5, rfl⟩
theorem rm105 (l : Launch) {Z a0} (hw : HW Z a0) (a1 : Addr) (y1 : Int64) (h0 : Heap) (O0 : Old Z Z.heap.size h0) (hc2 : ¬ ((lcmpW y1 (0 : Int64)) < (0 : Int32))) (z0 : Exa Z h0 a1 s1) (z1 : Fld Z h0 a1 s1 "signum" "I" iZ) (z2 : Z.heap.size ≤ a1) (hc6 : ¬ ((((y1.toUInt64 >>> ((32 : Int32) &&& 0x3f).toInt64.toUInt64).toInt64).toInt32) = (0 : Int32))) (z3 : Fld Z h0 a1 s1 "mag" "[I" .null) (z4 : Fld Z h0 a1 s1 s8 "I" iZ) :
    CtrN l Z mn30 jdk_2097_method_30_code 4 none [] (⟨2, 1, 2, 24⟩ : Room) #[(.ref a1), (.long y1)] h0 [a1] (fun v h => ∃ r1 : Addr, ∃ r2 : ClassId, h0.size ≤ r1 ∧ Fld Z h a1 s1 "signum" "I" (.int 1) ∧ Fld Z h a1 s1 "mag" "[I" (.ref r1) ∧ Fld Z h a1 s1 s8 "I" iZ ∧ Arv Z h r1 r2 .int 2 [(.int (((y1.toUInt64 >>> ((32 : Int32) &&& 0x3f).toInt64.toUInt64).toInt64).toInt32)), (.int (y1.toInt32))] iZ ∧ v = none) := by
  refine CtrN.intro (L0 := #[vr a1, .val (.long y1), .second, un]) (plainFor_of_name pn6) O0 (fun _ => rfl) ?_
  intro p e s m below meth c T0 hy hml hret hlk hnm W0
  refine o_aloadN W0 1 (hb hy d36_0) rfl rfl rfl ?_
  refine o_specialC W0 rfl (w178 hw) (w115 hw) (w119 hw) (by decide) (w118 hw) (rm19 l hw a1 h0 W0.old ) 0 0 0 (by decide) (by rw [hml]; rfl) (lenOf pd0 rfl) [] rfl rfl 4 (hb hy d36_1) rfl rfl rfl all0 tri ?_
  intro v1 T1 h1 lo1 W1 K1 q1
  obtain rfl := q1.2.2
  show Gl _ _ _ _ _ _ _ _ []
  refine o_lloadN W1 5 (hb hy d36_4) rfl rfl <| o_lconst W1 (v := 0) 6 (hb hy d36_5) (by decide) rfl <| o_lcmp W1 (v := (lcmpW y1 (0 : Int64))) 7 (hb hy d36_6) rfl rfl <| o_ifY W1 21 (hb hy d36_7) (XT.i0_ge_t hc2) (by decide) rfl <| o_aloadN W1 22 (hb hy d36_21) rfl rfl rfl <| o_iconst W1 (v := 1) 23 (hb hy d36_22) rfl rfl ?_
  have c3 := (z0.keep K1)
  have c4 := (z1.keep K1 nin0)
  refine o_putF W1 (w180 hw) Via.refl c4 c3 (Or.inr ⟨(w181 hw), rfl, hnm⟩) (w173 hw) (ty := .int) (v' := (.int 1)) (by decide) rfl rfl z2 m0 tri 26 (hb hy d36_23) rfl ?_
  intro T5 h5 lo5 W5 R5
  have F5 := c4.same R5
  refine o_lloadN W5 27 (hb hy d36_26) rfl rfl <| o_bipush W5 (v := 32) 29 (hb hy d36_27) (by decide) rfl <| o_lushr W5 (v := ((y1.toUInt64 >>> ((32 : Int32) &&& 0x3f).toInt64.toUInt64).toInt64)) 30 (hb hy d36_29) rfl rfl <| o_l2i W5 (v := (((y1.toUInt64 >>> ((32 : Int32) &&& 0x3f).toInt64.toUInt64).toInt64).toInt32)) 31 (hb hy d36_30) rfl rfl <| o_istoreN W5 (L' := #[vr a1, .val (.long y1), .second, .val (.int (((y1.toUInt64 >>> ((32 : Int32) &&& 0x3f).toInt64.toUInt64).toInt64).toInt32))]) 32 (hb hy d36_31) rfl rfl <| o_iloadN W5 33 (hb hy d36_32) rfl rfl ?_
  refine o_ifY W5 54 (hb hy d36_33) (XT.i0_ne_t hc6) (by decide) rfl <| o_aloadN W5 55 (hb hy d36_54) rfl rfl rfl <| o_iconst W5 (v := 2) 56 (hb hy d36_55) rfl rfl ?_
  refine o_newP W5 (aty := .int) (w182 hw) tri (by decide) (cap := 2) (by decide) (by decide) 58 (hb hy d36_56) rfl (cells' := 1) (slots' := 2) rfl rfl (by decide) (by decide) (vs := [iZ, iZ]) (dv := iZ) rfl rfl ?_
  intro b7 T7 h7 k7 W7 E7 ge7 gz7 gb7 V7
  have c8 := ((c3.wr R5).ext E7)
  have c9 := (((z3.keep K1 nin0).other R5 (Or.inr (slot_ne (Or.inr (w184 hw)) (Or.inr (w181 hw)) (by decide) (t := (.array .int)) (t' := .int) (by decide) (by decide)))).ext E7)
  refine o_putF W7 (w183 hw) Via.refl c9 c8 (Or.inr ⟨(w184 hw), rfl, hnm⟩) (w173 hw) (ty := (.array .int)) (v' := (.ref b7)) (by decide) rfl rfl z2 m0 tri 61 (hb hy d36_58) rfl ?_
  intro T10 h10 lo10 W10 R10
  have F10 := c9.same R10
  refine o_aloadN W10 62 (hb hy d36_61) rfl rfl rfl ?_
  refine o_getF W10 (w183 hw) Via.refl F10 65 (hb hy d36_62) rfl ?_
  intro T11 W11
  refine o_iconst W11 (v := 0) 66 (hb hy d36_65) rfl rfl <| o_iloadN W11 67 (hb hy d36_66) rfl rfl ?_
  have c12 := (c3.wr R5)
  have c13 := (V7.other R10 (own_ne' c12.lt ge7))
  refine o_stI W11 c13 (i := 0) (by decide) (by decide) (by decide) (Nat.lt_of_sub_eq_succ rfl) (vs' := [(.int (((y1.toUInt64 >>> ((32 : Int32) &&& 0x3f).toInt64.toUInt64).toInt64).toInt32)), iZ]) rfl gz7 (Or.inr gb7) tri 68 (hb hy d36_67) rfl ?_
  intro T14 h14 lo14 W14 R14 V14
  refine o_aloadN W14 69 (hb hy d36_68) rfl rfl rfl ?_
  have c15 := (F10.other R14 (Or.inl (own_ne c12.lt ge7)))
  refine o_getF W14 (w183 hw) Via.refl c15 72 (hb hy d36_69) rfl ?_
  intro T16 W16
  refine o_iconst W16 (v := 1) 73 (hb hy d36_72) rfl rfl <| o_lloadN W16 74 (hb hy d36_73) rfl rfl <| o_l2i W16 (v := (y1.toInt32)) 75 (hb hy d36_74) rfl rfl ?_
  refine o_stI W16 V14 (i := 1) (by decide) (by decide) (by decide) (Nat.lt_of_sub_eq_succ rfl) (vs' := [(.int (((y1.toUInt64 >>> ((32 : Int32) &&& 0x3f).toInt64.toUInt64).toInt64).toInt32)), (.int (y1.toInt32))]) rfl gz7 (Or.inr gb7) tri 76 (hb hy d36_75) rfl ?_
  intro T17 h17 lo17 W17 R17 V17
  have c18 := ((((F5.ext E7).other R10 (Or.inr (slot_ne (Or.inr (w181 hw)) (Or.inr (w184 hw)) (by decide) (t := .int) (t' := (.array .int)) (by decide) (by decide)))).other R14 (Or.inl (own_ne c12.lt ge7))).other R17 (Or.inl (own_ne c12.lt ge7)))
  have c19 := (c15.other R17 (Or.inl (own_ne c12.lt ge7)))
  have c20 := ((((((z4.keep K1 nin0).other R5 (Or.inr (slot_ne (Or.inl (w265 hw)) (Or.inr (w181 hw)) (by decide) (t := .int) (t' := .int) (by decide) (by decide)))).ext E7).other R10 (Or.inr (slot_ne (Or.inl (w265 hw)) (Or.inr (w184 hw)) (by decide) (t := .int) (t' := (.array .int)) (by decide) (by decide)))).other R14 (Or.inl (own_ne c12.lt ge7))).other R17 (Or.inl (own_ne c12.lt ge7)))
  have c21 := (((c8.wr R10).wr R14).wr R17)
  exact o_ret0 W17 hlk hret (hb hy d36_76) (by decide) (by decide) ⟨b7, k7, gb7, c18, c19, c20, V17, rfl⟩
theorem rm106 (l : Launch) {Z a0} (hw : HW Z a0) (y1 : Int64) (h0 : Heap) (O0 : Old Z Z.heap.size h0) (hc1 : ¬ ((lcmpW y1 (0 : Int64)) = (0 : Int32))) (hc2 : (0 : Int32) < (lcmpW y1 (0 : Int64))) (hc3 : (0 : Int32) < (lcmpW y1 (16 : Int64))) (hc4 : ¬ ((lcmpW y1 (0 : Int64)) < (0 : Int32))) (hc6 : ¬ ((((y1.toUInt64 >>> ((32 : Int32) &&& 0x3f).toInt64.toUInt64).toInt64).toInt32) = (0 : Int32))) :
    CtrN l Z mn31 jdk_2097_method_29_code 2 (some (.object s1)) [] (⟨3, 2, 8, 40⟩ : Room) #[(.long y1)] h0 [] (fun v h => ∃ r1 : Addr, ∃ r2 : Addr, ∃ r3 : ClassId, h0.size ≤ r1 ∧ h0.size ≤ r2 ∧ Exa Z h r1 s1 ∧ Fld Z h r1 s1 "signum" "I" (.int 1) ∧ Fld Z h r1 s1 "mag" "[I" (.ref r2) ∧ Fld Z h r1 s1 s8 "I" iZ ∧ Arv Z h r2 r3 .int 2 [(.int (((y1.toUInt64 >>> ((32 : Int32) &&& 0x3f).toInt64.toUInt64).toInt64).toInt32)), (.int (y1.toInt32))] iZ ∧ v = some (.ref r1)) := by
  refine CtrN.intro (L0 := #[.val (.long y1), .second]) (plainFor_of_name pn6) O0 (fun _ => rfl) ?_
  intro p e s m below meth c T0 hy hml hret hlk hnm W0
  refine o_lloadN W0 1 (hb hy d35_0) rfl rfl <| o_lconst W0 (v := 0) 2 (hb hy d35_1) (by decide) rfl <| o_lcmp W0 (v := (lcmpW y1 (0 : Int64))) 3 (hb hy d35_2) rfl rfl <| o_ifY W0 10 (hb hy d35_3) (XT.i0_ne_t hc1) (by decide) rfl <| o_lloadN W0 11 (hb hy d35_10) rfl rfl <| o_lconst W0 (v := 0) 12 (hb hy d35_11) (by decide) rfl ?_
  refine o_lcmp W0 (v := (lcmpW y1 (0 : Int64))) 13 (hb hy d35_12) rfl rfl <| o_ifN W0 16 (hb hy d35_13) (XT.i0_le_f hc2) rfl <| o_lloadN W0 17 (hb hy d35_16) rfl rfl <| o_ldcJ W0 (w171 hw) 20 (hb hy d35_17) rfl <| o_lcmp W0 (v := (lcmpW y1 (16 : Int64))) 21 (hb hy d35_20) rfl rfl <| o_ifY W0 31 (hb hy d35_21) (XT.i0_gt_t hc3) (by decide) rfl ?_
  refine o_lloadN W0 32 (hb hy d35_31) rfl rfl <| o_lconst W0 (v := 0) 33 (hb hy d35_32) (by decide) rfl <| o_lcmp W0 (v := (lcmpW y1 (0 : Int64))) 34 (hb hy d35_33) rfl rfl <| o_ifY W0 53 (hb hy d35_34) (XT.i0_ge_t hc4) (by decide) rfl ?_
  refine o_new W0 (w172 hw) (w173 hw) (w169 hw) tri 56 (hb hy d35_53) rfl (cells' := 1) (slots' := 6) rfl rfl (by decide) (by decide) ?_
  intro b5 T5 h5 W5 E5 ge5 gz5 gb5 A5 D5
  have Fb5_signum : Fld Z h5 b5 s1 "signum" "I" iZ := D5 (Or.inr (w181 hw)) (ty := .int) (by decide)
  have Fb5_mag : Fld Z h5 b5 s1 "mag" "[I" .null := D5 (Or.inr (w184 hw)) (ty := (.array .int)) (by decide)
  have Fb5_bitLengthPlusOne : Fld Z h5 b5 s1 s8 "I" iZ := D5 (Or.inl (w265 hw)) (ty := .int) (by decide)
  refine o_dup W5 57 (hb hy d35_56) rfl rfl <| o_lloadN W5 58 (hb hy d35_57) rfl rfl ?_
  refine o_specialC W5 rfl (w174 hw) (w175 hw) (w177 hw) (by decide) (w169 hw) (rm105 l hw b5 y1 h5 W5.old hc4 A5 Fb5_signum gz5 hc6 Fb5_mag Fb5_bitLengthPlusOne) 1 2 8 (by decide) (by rw [hml]; rfl) (lenOf pd24 rfl) [(.ref b5)] rfl rfl 61 (hb hy d35_58) rfl rfl rfl (allS ⟨gz5, (Or.inr gb5)⟩ all0) tri ?_
  intro v7 T7 h7 lo7 W7 K7 q7
  obtain ⟨r1_7, r2_7, P7_0, P7_1, P7_2, P7_3, P7_4, rfl⟩ := q7.2.2
  show Gl _ _ _ _ _ _ _ _ [(.ref b5)]
  have c8 := (A5.keep K7)
  exact o_retA W7 hlk (v := (.ref b5)) hret rfl rfl (hb hy d35_61) (by decide) (by decide) ⟨b5, r1_7, r2_7, gb5, (Nat.le_trans W5.keep.1 P7_0), c8, P7_1, P7_2, P7_3, P7_4, rfl⟩
theorem rm107 (l : Launch) {Z a0} (hw : HW Z a0) (a1 : Addr) (y1 : Int64) (h0 : Heap) (O0 : Old Z Z.heap.size h0) (z0 : Fld Z h0 a1 s0 "intVal" s5 .null) (z1 : Fld Z h0 a1 s0 s4 "J" (.long y1)) (hc3 : ¬ ((lcmpW y1 (0 : Int64)) = (0 : Int32))) (hc4 : (0 : Int32) < (lcmpW y1 (0 : Int64))) (hc5 : (0 : Int32) < (lcmpW y1 (16 : Int64))) (hc6 : ¬ ((lcmpW y1 (0 : Int64)) < (0 : Int32))) (hc7 : ¬ ((((y1.toUInt64 >>> ((32 : Int32) &&& 0x3f).toInt64.toUInt64).toInt64).toInt32) = (0 : Int32))) :
    CtrN l Z mn32 jdk_17_method_99_code 1 (some (.object s1)) [] (⟨4, 2, 8, 53⟩ : Room) #[(.ref a1)] h0 [] (fun v h => ∃ r1 : Addr, ∃ r2 : Addr, ∃ r3 : ClassId, h0.size ≤ r1 ∧ h0.size ≤ r2 ∧ Exa Z h r1 s1 ∧ Fld Z h r1 s1 "signum" "I" (.int 1) ∧ Fld Z h r1 s1 "mag" "[I" (.ref r2) ∧ Fld Z h r1 s1 s8 "I" iZ ∧ Arv Z h r2 r3 .int 2 [(.int (((y1.toUInt64 >>> ((32 : Int32) &&& 0x3f).toInt64.toUInt64).toInt64).toInt32)), (.int (y1.toInt32))] iZ ∧ v = some (.ref r1)) := by
  refine CtrN.intro (L0 := #[vr a1]) (plainFor_of_name pn4) O0 (fun _ => rfl) ?_
  intro p e s m below meth c T0 hy hml hret hlk hnm W0
  refine o_aloadN W0 1 (hb hy d34_0) rfl rfl rfl ?_
  refine o_getF W0 (w123 hw) Via.refl z0 4 (hb hy d34_1) rfl ?_
  intro T1 W1
  refine o_ifnonnullN W1 7 (hb hy d34_4) rfl ?_
  refine o_aloadN W1 8 (hb hy d34_7) rfl rfl rfl ?_
  refine o_getF W1 (w85 hw) Via.refl z1 11 (hb hy d34_8) rfl ?_
  intro T2 W2
  refine o_staticC W2 (w167 hw) (w168 hw) (w169 hw) (w170 hw) (by decide) (rm106 l hw y1 h0 W2.old hc3 hc4 hc5 hc6 hc7) 0 2 8 (by decide) (by rw [hml]; rfl) (lenOf pd25 rfl) [] rfl rfl 14 (hb hy d34_11) rfl rfl rfl all0 tri ?_
  intro v8 T8 h8 lo8 W8 K8 q8
  obtain ⟨r1_8, r2_8, r3_8, P8_0, P8_1, P8_2, P8_3, P8_4, P8_5, P8_6, rfl⟩ := q8.2.2
  show Gl _ _ _ _ _ _ _ _ [(.ref r1_8)]
  exact o_retA W8 hlk (v := (.ref r1_8)) hret rfl rfl (hb hy d34_14) (by decide) (by decide) ⟨r1_8, r2_8, r3_8, (Nat.le_trans W2.keep.1 P8_0), (Nat.le_trans W2.keep.1 P8_1), P8_2, P8_3, P8_4, P8_5, P8_6, rfl⟩
theorem rm108 (l : Launch) {Z a0} (hw : HW Z a0) (a1 : Addr) (y1 : Int64) (h0 : Heap) (O0 : Old Z Z.heap.size h0) (z0 : Exa Z h0 a1 s0) (z1 : Fld Z h0 a1 s0 "scale" "I" iZ) (z2 : Fld Z h0 a1 s0 "intVal" s5 .null) (z3 : Fld Z h0 a1 s0 s4 "J" (.long y1)) (hc4 : ¬ ((lcmpW y1 (0 : Int64)) = (0 : Int32))) (hc5 : (0 : Int32) < (lcmpW y1 (0 : Int64))) (hc6 : (0 : Int32) < (lcmpW y1 (16 : Int64))) (hc7 : ¬ ((lcmpW y1 (0 : Int64)) < (0 : Int32))) (hc8 : ¬ ((((y1.toUInt64 >>> ((32 : Int32) &&& 0x3f).toInt64.toUInt64).toInt64).toInt32) = (0 : Int32))) :
    CtrN l Z mn33 jdk_17_method_81_code 1 (some (.object s1)) [] (⟨5, 2, 8, 65⟩ : Room) #[(.ref a1)] h0 [] (fun v h => ∃ r1 : Addr, ∃ r2 : Addr, ∃ r3 : ClassId, h0.size ≤ r1 ∧ h0.size ≤ r2 ∧ Exa Z h r1 s1 ∧ Fld Z h r1 s1 "signum" "I" (.int 1) ∧ Fld Z h r1 s1 "mag" "[I" (.ref r2) ∧ Fld Z h r1 s1 s8 "I" iZ ∧ Arv Z h r2 r3 .int 2 [(.int (((y1.toUInt64 >>> ((32 : Int32) &&& 0x3f).toInt64.toUInt64).toInt64).toInt32)), (.int (y1.toInt32))] iZ ∧ v = some (.ref r1)) := by
  refine CtrN.intro (L0 := #[vr a1]) (plainFor_of_name pn4) O0 (fun _ => rfl) ?_
  intro p e s m below meth c T0 hy hml hret hlk hnm W0
  refine o_aloadN W0 1 (hb hy d32_0) rfl rfl rfl <| o_iconst W0 (v := 0) 2 (hb hy d32_1) rfl rfl <| o_bipush W0 (v := 7) 4 (hb hy d32_2) (by decide) rfl ?_
  refine o_virtualC W0 (w157 hw) (w158 hw) (o_nf W0 rfl (w160 hw)) (w160 hw) (w159 hw) (by decide) z0 (w161 hw) (w70 hw) (rm36 l hw a1 h0 W0.old z1) 0 0 0 (by decide) (by rw [hml]; rfl) (lenOf pd23 rfl) [] rfl rfl 7 (hb hy d32_4) rfl rfl rfl all0 tri ?_
  intro v1 T1 h1 lo1 W1 K1 q1
  obtain rfl := q1.2.2
  show Gl _ _ _ _ _ _ _ _ [(.ref a1)]
  have c2 := (z2.keep K1 nin0)
  have c3 := (z3.keep K1 nin0)
  have c9 := (z0.keep K1)
  refine o_privateC W1 (w162 hw) (w163 hw) (w165 hw) (w164 hw) (w166 hw) (by decide) c9 (w70 hw) (rm107 l hw a1 y1 h1 W1.old c2 c3 hc4 hc5 hc6 hc7 hc8) 0 2 8 (by decide) (by rw [hml]; rfl) (lenOf pd26 rfl) [] rfl rfl 10 (hb hy d32_7) rfl rfl rfl all0 tri ?_
  intro v10 T10 h10 lo10 W10 K10 q10
  obtain ⟨r1_10, r2_10, r3_10, P10_0, P10_1, P10_2, P10_3, P10_4, P10_5, P10_6, rfl⟩ := q10.2.2
  show Gl _ _ _ _ _ _ _ _ [(.ref r1_10)]
  exact o_retA W10 hlk (v := (.ref r1_10)) hret rfl rfl (hb hy d32_10) (by decide) (by decide) ⟨r1_10, r2_10, r3_10, (Nat.le_trans W1.keep.1 P10_0), (Nat.le_trans W1.keep.1 P10_1), P10_2, P10_3, P10_4, P10_5, P10_6, rfl⟩
theorem rm109 (l : Launch) {Z a0} (hw : HW Z a0) (a1 a2 : Addr) (z0 : ClassId) (x1 x2 : Int32) (h0 : Heap) (O0 : Old Z Z.heap.size h0) (z1 : Exa Z h0 a1 s3) (z2 : Fld Z h0 a1 s3 "offset" "I" iZ) (z3 : Z.heap.size ≤ a1) (z4 : Fld Z h0 a1 s3 "value" "[I" .null) (z5 : Arv Z h0 a2 z0 .int 2 [(.int x1), (.int x2)] iZ) (z6 : Fld Z h0 a1 s3 "intLen" "I" iZ) :
    CtrN l Z mn35 jdk_2101_method_3_code 2 none [] (⟨1, 0, 0, 12⟩ : Room) #[(.ref a1), (.ref a2)] h0 [a1] (fun v h => Fld Z h a1 s3 "offset" "I" iZ ∧ Fld Z h a1 s3 "value" "[I" (.ref a2) ∧ Fld Z h a1 s3 "intLen" "I" (.int 2) ∧ v = none) := by
  refine CtrN.intro (L0 := #[vr a1, vr a2]) (plainFor_of_name pn7) O0 (fun _ => rfl) ?_
  intro p e s m below meth c T0 hy hml hret hlk hnm W0
  refine o_aloadN W0 1 (hb hy d40_0) rfl rfl rfl ?_
  refine o_initO W0 (w204 hw) (w7 hw) (w8 hw) (by rw [hml]; rfl) 4 (hb hy d40_1) rfl (by decide) 0 (by exact Nat.le_of_eq rfl) (by decide) ?_
  intro T1 W1
  refine o_aloadN W1 5 (hb hy d40_4) rfl rfl rfl <| o_iconst W1 (v := 0) 6 (hb hy d40_5) rfl rfl ?_
  refine o_putF W1 (w205 hw) Via.refl z2 z1 (Or.inl (w206 hw)) (w198 hw) (ty := .int) (v' := iZ) (by decide) rfl rfl z3 m0 tri 9 (hb hy d40_6) rfl ?_
  intro T2 h2 lo2 W2 R2
  have F2 := z2.same R2
  refine o_aloadN W2 10 (hb hy d40_9) rfl rfl rfl <| o_aloadN W2 11 (hb hy d40_10) rfl rfl rfl ?_
  have c3 := (z1.wr R2)
  have c4 := (z4.other R2 (Or.inr (slot_ne (Or.inl (w208 hw)) (Or.inl (w206 hw)) (by decide) (t := (.array .int)) (t' := .int) (by decide) (by decide))))
  refine o_putF W2 (w207 hw) Via.refl c4 c3 (Or.inl (w208 hw)) (w198 hw) (ty := (.array .int)) (v' := (.ref a2)) (by decide) rfl rfl z3 m0 tri 14 (hb hy d40_11) rfl ?_
  intro T5 h5 lo5 W5 R5
  have F5 := c4.same R5
  refine o_aloadN W5 15 (hb hy d40_14) rfl rfl rfl <| o_aloadN W5 16 (hb hy d40_15) rfl rfl rfl ?_
  have c6 := (c3.wr R5)
  have c7 := (z5.other R2 (Ne.symm (Exa.neArv z1 z5 (w198 hw))))
  have c8 := ((z5.other R2 (Ne.symm (Exa.neArv z1 z5 (w198 hw)))).other R5 (Ne.symm (Exa.neArv c3 c7 (w198 hw))))
  refine o_len W5 c8 17 (hb hy d40_16) rfl ?_
  have c9 := ((z6.other R2 (Or.inr (slot_ne (Or.inl (w210 hw)) (Or.inl (w206 hw)) (by decide) (t := .int) (t' := .int) (by decide) (by decide)))).other R5 (Or.inr (slot_ne (Or.inl (w210 hw)) (Or.inl (w208 hw)) (by decide) (t := .int) (t' := (.array .int)) (by decide) (by decide))))
  refine o_putF W5 (w209 hw) Via.refl c9 c6 (Or.inl (w210 hw)) (w198 hw) (ty := .int) (v' := (.int 2)) (by decide) rfl rfl z3 m0 tri 20 (hb hy d40_17) rfl ?_
  intro T10 h10 lo10 W10 R10
  have F10 := c9.same R10
  have c11 := ((F2.other R5 (Or.inr (slot_ne (Or.inl (w206 hw)) (Or.inl (w208 hw)) (by decide) (t := .int) (t' := (.array .int)) (by decide) (by decide)))).other R10 (Or.inr (slot_ne (Or.inl (w206 hw)) (Or.inl (w210 hw)) (by decide) (t := .int) (t' := .int) (by decide) (by decide))))
  have c12 := (F5.other R10 (Or.inr (slot_ne (Or.inl (w208 hw)) (Or.inl (w210 hw)) (by decide) (t := (.array .int)) (t' := .int) (by decide) (by decide))))
  have c13 := (c6.wr R10)
  exact o_ret0 W10 hlk hret (hb hy d40_20) (by decide) (by decide) ⟨c11, c12, F10, rfl⟩
theorem rm110 (l : Launch) {Z a0} (hw : HW Z a0) (a1 a2 : Addr) (h0 : Heap) (O0 : Old Z Z.heap.size h0) (z0 : Fld Z h0 a2 s3 "intLen" "I" (.int 1)) (z1 : Fld Z h0 a1 s3 "intLen" "I" (.int 2)) :
    CtrN l Z mn36 jdk_2101_method_15_code 8 (some .int) [] (⟨0, 0, 0, 0⟩ : Room) #[(.ref a1), (.ref a2)] h0 [] (fun v h => v = some (.int 1)) := by
  refine CtrN.intro (L0 := #[vr a1, vr a2, un, un, un, un, un, un]) (plainFor_of_name pn7) O0 (fun _ => rfl) ?_
  intro p e s m below meth c T0 hy hml hret hlk hnm W0
  refine o_aloadN W0 1 (hb hy d43_0) rfl rfl rfl ?_
  refine o_getF W0 (w209 hw) Via.refl z0 4 (hb hy d43_1) rfl ?_
  intro T1 W1
  refine o_istoreN W1 (L' := #[vr a1, vr a2, vi 1, un, un, un, un, un]) 5 (hb hy d43_4) rfl rfl <| o_aloadN W1 6 (hb hy d43_5) rfl rfl rfl ?_
  refine o_getF W1 (w209 hw) Via.refl z1 9 (hb hy d43_6) rfl ?_
  intro T2 W2
  refine o_iloadN W2 10 (hb hy d43_9) rfl rfl <| o_icmpY W2 15 (hb hy d43_10) (XT.ii_ge_t (by decide)) (by decide) rfl <| o_aloadN W2 16 (hb hy d43_15) rfl rfl rfl ?_
  refine o_getF W2 (w209 hw) Via.refl z1 19 (hb hy d43_16) rfl ?_
  intro T3 W3
  refine o_iloadN W3 20 (hb hy d43_19) rfl rfl <| o_icmpN W3 23 (hb hy d43_20) (XT.ii_le_f (by decide)) rfl <| o_iconst W3 (v := 1) 24 (hb hy d43_23) rfl rfl ?_
  exact o_retI W3 hlk hret (hb hy d43_24) (by decide) (by decide) rfl
theorem rm111 (l : Launch) {Z a0} (hw : HW Z a0) (x1 : Int32) (h0 : Heap) (O0 : Old Z Z.heap.size h0) (hc1 : (0 : Int32) < x1) (hc2 : ¬ (x1 < (65536 : Int32))) (hc3 : ¬ (((x1.toUInt32 >>> ((16 : Int32) &&& 31).toUInt32).toInt32) < (256 : Int32))) (hc4 : ¬ (((((x1.toUInt32 >>> ((16 : Int32) &&& 31).toUInt32).toInt32).toUInt32 >>> ((8 : Int32) &&& 31).toUInt32).toInt32) < (16 : Int32))) (hc5 : ((((((x1.toUInt32 >>> ((16 : Int32) &&& 31).toUInt32).toInt32).toUInt32 >>> ((8 : Int32) &&& 31).toUInt32).toInt32).toUInt32 >>> ((4 : Int32) &&& 31).toUInt32).toInt32) < (4 : Int32)) :
    CtrN l Z mn46 jdk_33_method_47_code 2 (some .int) [] (⟨0, 0, 0, 0⟩ : Room) #[(.int x1)] h0 [] (fun v h => v = some (.int ((3 : Int32) - ((((((((x1.toUInt32 >>> ((16 : Int32) &&& 31).toUInt32).toInt32).toUInt32 >>> ((8 : Int32) &&& 31).toUInt32).toInt32).toUInt32 >>> ((4 : Int32) &&& 31).toUInt32).toInt32).toUInt32 >>> ((1 : Int32) &&& 31).toUInt32).toInt32)))) := by
  refine CtrN.intro (L0 := #[vi x1, un]) (plainFor_of_name pn8) O0 (fun _ => rfl) ?_
  intro p e s m below meth c T0 hy hml hret hlk hnm W0
  refine o_iloadN W0 1 (hb hy d51_0) rfl rfl <| o_ifY W0 15 (hb hy d51_1) (XT.i0_gt_t hc1) (by decide) rfl <| o_bipush W0 (v := 31) 17 (hb hy d51_15) (by decide) rfl <| o_istoreN W0 (L' := #[vi x1, vi 31]) 18 (hb hy d51_17) rfl rfl <| o_iloadN W0 19 (hb hy d51_18) rfl rfl ?_
  refine o_ldcWI W0 (w273 hw) 22 (hb hy d51_19) rfl ?_
  refine o_icmpN W0 25 (hb hy d51_22) (XT.ii_lt_f hc2) rfl <| o_iinc W0 (v := 15) (L' := #[vi x1, vi 15]) 28 (hb hy d51_25) rfl (by decide) rfl rfl <| o_iloadN W0 29 (hb hy d51_28) rfl rfl <| o_bipush W0 (v := 16) 31 (hb hy d51_29) (by decide) rfl <| o_iushr W0 (v := ((x1.toUInt32 >>> ((16 : Int32) &&& 31).toUInt32).toInt32)) 32 (hb hy d51_31) rfl rfl <| o_istoreN W0 (L' := #[.val (.int ((x1.toUInt32 >>> ((16 : Int32) &&& 31).toUInt32).toInt32)), vi 15]) 33 (hb hy d51_32) rfl rfl ?_
  refine o_iloadN W0 34 (hb hy d51_33) rfl rfl <| o_sipush W0 (v := 256) 37 (hb hy d51_34) (by decide) rfl <| o_icmpN W0 40 (hb hy d51_37) (XT.ii_lt_f hc3) rfl <| o_iinc W0 (v := 7) (L' := #[.val (.int ((x1.toUInt32 >>> ((16 : Int32) &&& 31).toUInt32).toInt32)), vi 7]) 43 (hb hy d51_40) rfl (by decide) rfl rfl <| o_iloadN W0 44 (hb hy d51_43) rfl rfl <| o_bipush W0 (v := 8) 46 (hb hy d51_44) (by decide) rfl ?_
  refine o_iushr W0 (v := ((((x1.toUInt32 >>> ((16 : Int32) &&& 31).toUInt32).toInt32).toUInt32 >>> ((8 : Int32) &&& 31).toUInt32).toInt32)) 47 (hb hy d51_46) rfl rfl <| o_istoreN W0 (L' := #[.val (.int ((((x1.toUInt32 >>> ((16 : Int32) &&& 31).toUInt32).toInt32).toUInt32 >>> ((8 : Int32) &&& 31).toUInt32).toInt32)), vi 7]) 48 (hb hy d51_47) rfl rfl <| o_iloadN W0 49 (hb hy d51_48) rfl rfl <| o_bipush W0 (v := 16) 51 (hb hy d51_49) (by decide) rfl <| o_icmpN W0 54 (hb hy d51_51) (XT.ii_lt_f hc4) rfl <| o_iinc W0 (v := 3) (L' := #[.val (.int ((((x1.toUInt32 >>> ((16 : Int32) &&& 31).toUInt32).toInt32).toUInt32 >>> ((8 : Int32) &&& 31).toUInt32).toInt32)), vi 3]) 57 (hb hy d51_54) rfl (by decide) rfl rfl ?_
  refine o_iloadN W0 58 (hb hy d51_57) rfl rfl <| o_iconst W0 (v := 4) 59 (hb hy d51_58) rfl rfl <| o_iushr W0 (v := ((((((x1.toUInt32 >>> ((16 : Int32) &&& 31).toUInt32).toInt32).toUInt32 >>> ((8 : Int32) &&& 31).toUInt32).toInt32).toUInt32 >>> ((4 : Int32) &&& 31).toUInt32).toInt32)) 60 (hb hy d51_59) rfl rfl <| o_istoreN W0 (L' := #[.val (.int ((((((x1.toUInt32 >>> ((16 : Int32) &&& 31).toUInt32).toInt32).toUInt32 >>> ((8 : Int32) &&& 31).toUInt32).toInt32).toUInt32 >>> ((4 : Int32) &&& 31).toUInt32).toInt32)), vi 3]) 61 (hb hy d51_60) rfl rfl <| o_iloadN W0 62 (hb hy d51_61) rfl rfl <| o_iconst W0 (v := 4) 63 (hb hy d51_62) rfl rfl ?_
  refine o_icmpY W0 73 (hb hy d51_63) (XT.ii_lt_t hc5) (by decide) rfl <| o_iloadN W0 74 (hb hy d51_73) rfl rfl <| o_iloadN W0 75 (hb hy d51_74) rfl rfl <| o_iconst W0 (v := 1) 76 (hb hy d51_75) rfl rfl <| o_iushr W0 (v := ((((((((x1.toUInt32 >>> ((16 : Int32) &&& 31).toUInt32).toInt32).toUInt32 >>> ((8 : Int32) &&& 31).toUInt32).toInt32).toUInt32 >>> ((4 : Int32) &&& 31).toUInt32).toInt32).toUInt32 >>> ((1 : Int32) &&& 31).toUInt32).toInt32)) 77 (hb hy d51_76) rfl rfl <| o_isub W0 (v := ((3 : Int32) - ((((((((x1.toUInt32 >>> ((16 : Int32) &&& 31).toUInt32).toInt32).toUInt32 >>> ((8 : Int32) &&& 31).toUInt32).toInt32).toUInt32 >>> ((4 : Int32) &&& 31).toUInt32).toInt32).toUInt32 >>> ((1 : Int32) &&& 31).toUInt32).toInt32))) 78 (hb hy d51_77) rfl rfl ?_
  exact o_retI W0 hlk hret (hb hy d51_78) (by decide) (by decide) rfl
theorem rm112 (l : Launch) {Z a0} (hw : HW Z a0) (a1 a2 : Addr) (z0 : ClassId) (x1 : Int32) (h0 : Heap) (O0 : Old Z Z.heap.size h0) (z1 : Fld Z h0 a1 s3 "intLen" "I" (.int 2)) (z2 : Fld Z h0 a1 s3 "offset" "I" iZ) (z3 : Fld Z h0 a1 s3 "value" "[I" (.ref a2)) (z4 : Arv Z h0 a2 z0 .int 2 [iZ, (.int x1)] iZ) (hc6 : ¬ (x1 = (0 : Int32))) (z5 : Exa Z h0 a1 s3) (z6 : Z.heap.size ≤ a1) :
    CtrN l Z mn60 jdk_2101_method_21_code 4 none [] (⟨0, 0, 0, 0⟩ : Room) #[(.ref a1)] h0 [a1] (fun v h => Fld Z h a1 s3 "intLen" "I" (.int 1) ∧ Fld Z h a1 s3 "offset" "I" (.int 1) ∧ Fld Z h a1 s3 "value" "[I" (.ref a2) ∧ v = none) := by
  refine CtrN.intro (L0 := #[vr a1, un, un, un]) (plainFor_of_name pn7) O0 (fun _ => rfl) ?_
  intro p e s m below meth c T0 hy hml hret hlk hnm W0
  refine o_aloadN W0 1 (hb hy d62_0) rfl rfl rfl ?_
  refine o_getF W0 (w209 hw) Via.refl z1 4 (hb hy d62_1) rfl ?_
  intro T1 W1
  refine o_ifY W1 13 (hb hy d62_4) (XT.i0_ne_t (by decide)) (by decide) rfl <| o_aloadN W1 14 (hb hy d62_13) rfl rfl rfl ?_
  refine o_getF W1 (w205 hw) Via.refl z2 17 (hb hy d62_14) rfl ?_
  intro T2 W2
  refine o_istoreN W2 (L' := #[vr a1, vi 0, un, un]) 18 (hb hy d62_17) rfl rfl <| o_aloadN W2 19 (hb hy d62_18) rfl rfl rfl ?_
  refine o_getF W2 (w207 hw) Via.refl z3 22 (hb hy d62_19) rfl ?_
  intro T3 W3
  refine o_iloadN W3 23 (hb hy d62_22) rfl rfl <| o_iaload W3 z4 (x := (0 : Int32)) (i := 0) (by decide) (by decide) (by decide) rfl 24 (hb hy d62_23) rfl <| o_ifY W3 28 (hb hy d62_24) (XT.i0_eq_t (by decide)) (by decide) rfl <| o_iloadN W3 29 (hb hy d62_28) rfl rfl <| o_aloadN W3 30 (hb hy d62_29) rfl rfl rfl ?_
  refine o_getF W3 (w209 hw) Via.refl z1 33 (hb hy d62_30) rfl ?_
  intro T4 W4
  refine o_iadd W4 (v := 2) 34 (hb hy d62_33) (by decide) rfl <| o_istoreN W4 (L' := #[vr a1, vi 0, vi 2, un]) 35 (hb hy d62_34) rfl rfl <| o_iinc W4 (v := 1) (L' := #[vr a1, vi 1, vi 2, un]) 38 (hb hy d62_35) rfl (by decide) rfl rfl <| o_iloadN W4 39 (hb hy d62_38) rfl rfl <| o_iloadN W4 40 (hb hy d62_39) rfl rfl <| o_icmpN W4 43 (hb hy d62_40) (XT.ii_ge_f (by decide)) rfl ?_
  refine o_aloadN W4 44 (hb hy d62_43) rfl rfl rfl ?_
  refine o_getF W4 (w207 hw) Via.refl z3 47 (hb hy d62_44) rfl ?_
  intro T5 W5
  refine o_iloadN W5 48 (hb hy d62_47) rfl rfl <| o_iaload W5 z4 (x := x1) (i := 1) (by decide) (by decide) (by decide) rfl 49 (hb hy d62_48) rfl <| o_ifN W5 52 (hb hy d62_49) (XT.i0_eq_f hc6) rfl <| o_iloadN W5 53 (hb hy d62_52) rfl rfl <| o_aloadN W5 54 (hb hy d62_53) rfl rfl rfl ?_
  refine o_getF W5 (w205 hw) Via.refl z2 57 (hb hy d62_54) rfl ?_
  intro T7 W7
  refine o_isub W7 (v := 1) 58 (hb hy d62_57) (by decide) rfl <| o_istoreN W7 (L' := #[vr a1, vi 1, vi 2, vi 1]) 59 (hb hy d62_58) rfl rfl <| o_aloadN W7 60 (hb hy d62_59) rfl rfl rfl <| o_dup W7 61 (hb hy d62_60) rfl rfl ?_
  refine o_getF W7 (w209 hw) Via.refl z1 64 (hb hy d62_61) rfl ?_
  intro T8 W8
  refine o_iloadN W8 65 (hb hy d62_64) rfl rfl <| o_isub W8 (v := 1) 66 (hb hy d62_65) (by decide) rfl ?_
  refine o_putF W8 (w209 hw) Via.refl z1 z5 (Or.inl (w210 hw)) (w198 hw) (ty := .int) (v' := (.int 1)) (by decide) rfl rfl z6 m0 tri 69 (hb hy d62_66) rfl ?_
  intro T9 h9 lo9 W9 R9
  have F9 := z1.same R9
  refine o_aloadN W9 70 (hb hy d62_69) rfl rfl rfl <| o_aloadN W9 71 (hb hy d62_70) rfl rfl rfl ?_
  refine o_getF W9 (w209 hw) Via.refl F9 74 (hb hy d62_71) rfl ?_
  intro T10 W10
  refine o_ifY W10 81 (hb hy d62_74) (XT.i0_ne_t (by decide)) (by decide) rfl <| o_aloadN W10 82 (hb hy d62_81) rfl rfl rfl ?_
  have c11 := (z2.other R9 (Or.inr (slot_ne (Or.inl (w206 hw)) (Or.inl (w210 hw)) (by decide) (t := .int) (t' := .int) (by decide) (by decide))))
  refine o_getF W10 (w205 hw) Via.refl c11 85 (hb hy d62_82) rfl ?_
  intro T12 W12
  refine o_iloadN W12 86 (hb hy d62_85) rfl rfl <| o_iadd W12 (v := 1) 87 (hb hy d62_86) (by decide) rfl ?_
  have c13 := (z5.wr R9)
  refine o_putF W12 (w205 hw) Via.refl c11 c13 (Or.inl (w206 hw)) (w198 hw) (ty := .int) (v' := (.int 1)) (by decide) rfl rfl z6 m0 tri 90 (hb hy d62_87) rfl ?_
  intro T14 h14 lo14 W14 R14
  have F14 := c11.same R14
  have c15 := ((z3.other R9 (Or.inr (slot_ne (Or.inl (w208 hw)) (Or.inl (w210 hw)) (by decide) (t := (.array .int)) (t' := .int) (by decide) (by decide)))).other R14 (Or.inr (slot_ne (Or.inl (w208 hw)) (Or.inl (w206 hw)) (by decide) (t := (.array .int)) (t' := .int) (by decide) (by decide))))
  have c16 := (F9.other R14 (Or.inr (slot_ne (Or.inl (w210 hw)) (Or.inl (w206 hw)) (by decide) (t := .int) (t' := .int) (by decide) (by decide))))
  have c17 := (c13.wr R14)
  exact o_ret0 W14 hlk hret (hb hy d62_90) (by decide) (by decide) ⟨c16, F14, c15, rfl⟩
theorem rm113 (l : Launch) {Z a0} (hw : HW Z a0) (a1 : Addr) (x1 : Int32) (a2 a3 : Addr) (z0 : ClassId) (a4 : Addr) (z1 : ClassId) (x2 x3 : Int32) (h0 : Heap) (O0 : Old Z Z.heap.size h0) (z2 : Fld Z h0 a1 s3 "intLen" "I" (.int 2)) (z3 : Fld Z h0 a2 s3 "value" "[I" (.ref a3)) (z4 : Arv Z h0 a3 z0 .int 1 [iZ] iZ) (z5 : Exa Z h0 a2 s3) (z6 : Z.heap.size ≤ a2) (z7 : Fld Z h0 a2 s3 "offset" "I" iZ) (z8 : Exa Z h0 a1 s3) (z9 : a1 ≠ a2) (z10 : Fld Z h0 a2 s3 "intLen" "I" iZ) (hc18 : (0 : Int32) < x1) (hc19 : ¬ (x1 < (65536 : Int32))) (hc20 : ¬ (((x1.toUInt32 >>> ((16 : Int32) &&& 31).toUInt32).toInt32) < (256 : Int32))) (hc21 : ¬ (((((x1.toUInt32 >>> ((16 : Int32) &&& 31).toUInt32).toInt32).toUInt32 >>> ((8 : Int32) &&& 31).toUInt32).toInt32) < (16 : Int32))) (hc22 : ((((((x1.toUInt32 >>> ((16 : Int32) &&& 31).toUInt32).toInt32).toUInt32 >>> ((8 : Int32) &&& 31).toUInt32).toInt32).toUInt32 >>> ((4 : Int32) &&& 31).toUInt32).toInt32) < (4 : Int32)) (z11 : Fld Z h0 a1 s3 "value" "[I" (.ref a4)) (z12 : Fld Z h0 a1 s3 "offset" "I" iZ) (z13 : Arv Z h0 a4 z1 .int 2 [(.int x2), (.int x3)] iZ) (hc34 : (lcmpW ((x2.toInt64) &&& (4294967295 : Int64)) ((x1.toInt64) &&& (4294967295 : Int64))) < (0 : Int32)) (hc49 : ¬ ((lcmpW ((((x2.toInt64) &&& (4294967295 : Int64)) <<< ((32 : Int32) &&& 0x3f).toInt64) ||| ((x3.toInt64) &&& (4294967295 : Int64))) (0 : Int64)) < (0 : Int32))) (hc50 : ¬ (((x1.toInt64) &&& (4294967295 : Int64)) = (0 : Int64))) (hc58 : ¬ (((((((x2.toInt64) &&& (4294967295 : Int64)) <<< ((32 : Int32) &&& 0x3f).toInt64) ||| ((x3.toInt64) &&& (4294967295 : Int64))) / ((x1.toInt64) &&& (4294967295 : Int64))).toInt32) = (0 : Int32))) (hc61 : (0 : Int32) < ((3 : Int32) - ((((((((x1.toUInt32 >>> ((16 : Int32) &&& 31).toUInt32).toInt32).toUInt32 >>> ((8 : Int32) &&& 31).toUInt32).toInt32).toUInt32 >>> ((4 : Int32) &&& 31).toUInt32).toInt32).toUInt32 >>> ((1 : Int32) &&& 31).toUInt32).toInt32))) (hc62 : ¬ (x1 = (0 : Int32))) :
    CtrN l Z mn38 jdk_2101_method_53_code 15 (some .int) [] (⟨1, 1, 2, 15⟩ : Room) #[(.ref a1), (.int x1), (.ref a2)] h0 [a2] (fun v h => ∃ r1 : Addr, ∃ r2 : ClassId, h0.size ≤ r1 ∧ Fld Z h a2 s3 "value" "[I" (.ref r1) ∧ Fld Z h a2 s3 "offset" "I" (.int 1) ∧ Fld Z h a2 s3 "intLen" "I" (.int 1) ∧ Arv Z h r1 r2 .int 2 [iZ, (.int ((((((x2.toInt64) &&& (4294967295 : Int64)) <<< ((32 : Int32) &&& 0x3f).toInt64) ||| ((x3.toInt64) &&& (4294967295 : Int64))) / ((x1.toInt64) &&& (4294967295 : Int64))).toInt32))] iZ ∧ v = some (.int (((((((x2.toInt64) &&& (4294967295 : Int64)) <<< ((32 : Int32) &&& 0x3f).toInt64) ||| ((x3.toInt64) &&& (4294967295 : Int64))) - ((((((((x2.toInt64) &&& (4294967295 : Int64)) <<< ((32 : Int32) &&& 0x3f).toInt64) ||| ((x3.toInt64) &&& (4294967295 : Int64))) / ((x1.toInt64) &&& (4294967295 : Int64))).toInt32).toInt64) * ((x1.toInt64) &&& (4294967295 : Int64)))).toInt32) % x1))) := by
  refine CtrN.intro (L0 := #[vr a1, vi x1, vr a2, un, un, un, un, un, un, un, un, un, un, un, un]) (plainFor_of_name pn7) O0 (fun _ => rfl) ?_
  intro p e s m below meth c T0 hy hml hret hlk hnm W0
  refine o_iloadN W0 1 (hb hy d45_0) rfl rfl <| o_i2l W0 (v := (x1.toInt64)) 2 (hb hy d45_1) rfl rfl <| o_ldcJ W0 (w240 hw) 5 (hb hy d45_2) rfl <| o_land W0 (v := ((x1.toInt64) &&& (4294967295 : Int64))) 6 (hb hy d45_5) rfl rfl <| o_lstoreN W0 (L' := #[vr a1, vi x1, vr a2, .val (.long ((x1.toInt64) &&& (4294967295 : Int64))), .second, un, un, un, un, un, un, un, un, un, un]) 7 (hb hy d45_6) rfl rfl <| o_aloadN W0 8 (hb hy d45_7) rfl rfl rfl ?_
  refine o_getF W0 (w209 hw) Via.refl z2 11 (hb hy d45_8) rfl ?_
  intro T1 W1
  refine o_iconst W1 (v := 1) 12 (hb hy d45_11) rfl rfl <| o_icmpY W1 79 (hb hy d45_12) (XT.ii_ne_t (by decide)) (by decide) rfl <| o_aloadN W1 80 (hb hy d45_79) rfl rfl rfl ?_
  refine o_getF W1 (w207 hw) Via.refl z3 83 (hb hy d45_80) rfl ?_
  intro T2 W2
  refine o_len W2 z4 84 (hb hy d45_83) rfl <| o_aloadN W2 85 (hb hy d45_84) rfl rfl rfl ?_
  refine o_getF W2 (w209 hw) Via.refl z2 88 (hb hy d45_85) rfl ?_
  intro T3 W3
  refine o_icmpN W3 91 (hb hy d45_88) (XT.ii_ge_f (by decide)) rfl <| o_aloadN W3 92 (hb hy d45_91) rfl rfl rfl <| o_aloadN W3 93 (hb hy d45_92) rfl rfl rfl ?_
  refine o_getF W3 (w209 hw) Via.refl z2 96 (hb hy d45_93) rfl ?_
  intro T4 W4
  refine o_newP W4 (aty := .int) (w182 hw) tri (by decide) (cap := 2) (by decide) (by decide) 98 (hb hy d45_96) rfl (cells' := 1) (slots' := 2) rfl rfl (by decide) (by decide) (vs := [iZ, iZ]) (dv := iZ) rfl rfl ?_
  intro b5 T5 h5 k5 W5 E5 ge5 gz5 gb5 V5
  have c6 := (z5.ext E5)
  have c7 := (z3.ext E5)
  refine o_putF W5 (w207 hw) Via.refl c7 c6 (Or.inl (w208 hw)) (w198 hw) (ty := (.array .int)) (v' := (.ref b5)) (by decide) rfl rfl z6 m0 tri 101 (hb hy d45_98) rfl ?_
  intro T8 h8 lo8 W8 R8
  have F8 := c7.same R8
  refine o_aloadN W8 102 (hb hy d45_101) rfl rfl rfl <| o_iconst W8 (v := 0) 103 (hb hy d45_102) rfl rfl ?_
  have c9 := (c6.wr R8)
  have c10 := ((z7.ext E5).other R8 (Or.inr (slot_ne (Or.inl (w206 hw)) (Or.inl (w208 hw)) (by decide) (t := .int) (t' := (.array .int)) (by decide) (by decide))))
  refine o_putF W8 (w205 hw) Via.refl c10 c9 (Or.inl (w206 hw)) (w198 hw) (ty := .int) (v' := iZ) (by decide) rfl rfl z6 m0 tri 106 (hb hy d45_103) rfl ?_
  intro T11 h11 lo11 W11 R11
  have F11 := c10.same R11
  refine o_aloadN W11 107 (hb hy d45_106) rfl rfl rfl <| o_aloadN W11 108 (hb hy d45_107) rfl rfl rfl ?_
  have c12 := (((z8.ext E5).wr R8).wr R11)
  have c13 := (c9.wr R11)
  have c14 := (((z2.ext E5).other R8 (Or.inl z9)).other R11 (Or.inl z9))
  refine o_getF W11 (w209 hw) Via.refl c14 111 (hb hy d45_108) rfl ?_
  intro T15 W15
  have c16 := (((z10.ext E5).other R8 (Or.inr (slot_ne (Or.inl (w210 hw)) (Or.inl (w208 hw)) (by decide) (t := .int) (t' := (.array .int)) (by decide) (by decide)))).other R11 (Or.inr (slot_ne (Or.inl (w210 hw)) (Or.inl (w206 hw)) (by decide) (t := .int) (t' := .int) (by decide) (by decide))))
  refine o_putF W15 (w209 hw) Via.refl c16 c13 (Or.inl (w210 hw)) (w198 hw) (ty := .int) (v' := (.int 2)) (by decide) rfl rfl z6 m0 tri 114 (hb hy d45_111) rfl ?_
  intro T17 h17 lo17 W17 R17
  have F17 := c16.same R17
  refine o_iloadN W17 115 (hb hy d45_114) rfl rfl ?_
  refine o_staticC W17 (w320 hw) (w270 hw) (w271 hw) (w272 hw) (by decide) (rm111 l hw x1 h17 W17.old hc18 hc19 hc20 hc21 hc22) 0 1 2 (by decide) (by rw [hml]; rfl) (lenOf pd36 rfl) [] rfl rfl 118 (hb hy d45_115) rfl rfl rfl all0 tri ?_
  intro v23 T23 h23 lo23 W23 K23 q23
  obtain rfl := q23.2.2
  show Gl _ _ _ _ _ _ _ _ [(.int ((3 : Int32) - ((((((((x1.toUInt32 >>> ((16 : Int32) &&& 31).toUInt32).toInt32).toUInt32 >>> ((8 : Int32) &&& 31).toUInt32).toInt32).toUInt32 >>> ((4 : Int32) &&& 31).toUInt32).toInt32).toUInt32 >>> ((1 : Int32) &&& 31).toUInt32).toInt32)))]
  refine o_istore W23 (L' := #[vr a1, vi x1, vr a2, .val (.long ((x1.toInt64) &&& (4294967295 : Int64))), .second, .val (.int ((3 : Int32) - ((((((((x1.toUInt32 >>> ((16 : Int32) &&& 31).toUInt32).toInt32).toUInt32 >>> ((8 : Int32) &&& 31).toUInt32).toInt32).toUInt32 >>> ((4 : Int32) &&& 31).toUInt32).toInt32).toUInt32 >>> ((1 : Int32) &&& 31).toUInt32).toInt32))), un, un, un, un, un, un, un, un, un]) 120 (hb hy d45_118) rfl rfl <| o_aloadN W23 121 (hb hy d45_120) rfl rfl rfl ?_
  have c24 := ((c12.wr R17).keep K23)
  have c25 := ((c13.wr R17).keep K23)
  have c26 := (((((z11.ext E5).other R8 (Or.inl z9)).other R11 (Or.inl z9)).other R17 (Or.inl z9)).keep K23 nin0)
  refine o_getF W23 (w207 hw) Via.refl c26 124 (hb hy d45_121) rfl ?_
  intro T27 W27
  refine o_aloadN W27 125 (hb hy d45_124) rfl rfl rfl ?_
  have c28 := (((((z12.ext E5).other R8 (Or.inl z9)).other R11 (Or.inl z9)).other R17 (Or.inl z9)).keep K23 nin0)
  refine o_getF W27 (w205 hw) Via.refl c28 128 (hb hy d45_125) rfl ?_
  intro T29 W29
  have c30 := (z13.ext E5)
  have c31 := (c30.other R8 (Ne.symm (Exa.neArv c6 c30 (w198 hw))))
  have c32 := (c31.other R11 (Ne.symm (Exa.neArv c9 c31 (w198 hw))))
  have c33 := (((((z13.ext E5).other R8 (Ne.symm (Exa.neArv c6 c30 (w198 hw)))).other R11 (Ne.symm (Exa.neArv c9 c31 (w198 hw)))).other R17 (Ne.symm (Exa.neArv c13 c32 (w198 hw)))).keep K23 nin0)
  refine o_iaload W29 c33 (x := x2) (i := 0) (by decide) (by decide) (by decide) rfl 129 (hb hy d45_128) rfl <| o_istore W29 (L' := #[vr a1, vi x1, vr a2, .val (.long ((x1.toInt64) &&& (4294967295 : Int64))), .second, .val (.int ((3 : Int32) - ((((((((x1.toUInt32 >>> ((16 : Int32) &&& 31).toUInt32).toInt32).toUInt32 >>> ((8 : Int32) &&& 31).toUInt32).toInt32).toUInt32 >>> ((4 : Int32) &&& 31).toUInt32).toInt32).toUInt32 >>> ((1 : Int32) &&& 31).toUInt32).toInt32))), vi x2, un, un, un, un, un, un, un, un]) 131 (hb hy d45_129) rfl rfl <| o_iload W29 133 (hb hy d45_131) rfl rfl <| o_i2l W29 (v := (x2.toInt64)) 134 (hb hy d45_133) rfl rfl <| o_ldcJ W29 (w240 hw) 137 (hb hy d45_134) rfl <| o_land W29 (v := ((x2.toInt64) &&& (4294967295 : Int64))) 138 (hb hy d45_137) rfl rfl ?_
  refine o_lstore W29 (L' := #[vr a1, vi x1, vr a2, .val (.long ((x1.toInt64) &&& (4294967295 : Int64))), .second, .val (.int ((3 : Int32) - ((((((((x1.toUInt32 >>> ((16 : Int32) &&& 31).toUInt32).toInt32).toUInt32 >>> ((8 : Int32) &&& 31).toUInt32).toInt32).toUInt32 >>> ((4 : Int32) &&& 31).toUInt32).toInt32).toUInt32 >>> ((1 : Int32) &&& 31).toUInt32).toInt32))), vi x2, .val (.long ((x2.toInt64) &&& (4294967295 : Int64))), .second, un, un, un, un, un, un]) 140 (hb hy d45_138) rfl rfl <| o_lload W29 142 (hb hy d45_140) rfl rfl <| o_lloadN W29 143 (hb hy d45_142) rfl rfl <| o_lcmp W29 (v := (lcmpW ((x2.toInt64) &&& (4294967295 : Int64)) ((x1.toInt64) &&& (4294967295 : Int64)))) 144 (hb hy d45_143) rfl rfl <| o_ifN W29 147 (hb hy d45_144) (XT.i0_ge_f hc34) rfl <| o_aloadN W29 148 (hb hy d45_147) rfl rfl rfl ?_
  have c35 := (((F8.other R11 (Or.inr (slot_ne (Or.inl (w208 hw)) (Or.inl (w206 hw)) (by decide) (t := (.array .int)) (t' := .int) (by decide) (by decide)))).other R17 (Or.inr (slot_ne (Or.inl (w208 hw)) (Or.inl (w210 hw)) (by decide) (t := (.array .int)) (t' := .int) (by decide) (by decide)))).keep K23 nin0)
  refine o_getF W29 (w207 hw) Via.refl c35 151 (hb hy d45_148) rfl ?_
  intro T36 W36
  refine o_iconst W36 (v := 0) 152 (hb hy d45_151) rfl rfl <| o_iconst W36 (v := 0) 153 (hb hy d45_152) rfl rfl ?_
  have c37 := ((((V5.other R8 (own_ne' z3.lt ge5)).other R11 (own_ne' z3.lt ge5)).other R17 (own_ne' z3.lt ge5)).keep K23 nin0)
  refine o_stI W36 c37 (i := 0) (by decide) (by decide) (by decide) (Nat.lt_of_sub_eq_succ rfl) (vs' := [iZ, iZ]) rfl gz5 (Or.inr gb5) tri 154 (hb hy d45_153) rfl ?_
  intro T38 h38 lo38 W38 R38 V38
  refine o_goto W38 192 (hb hy d45_154) (by decide) rfl <| o_aloadN W38 193 (hb hy d45_192) rfl rfl rfl ?_
  have c39 := (c24.wr R38)
  have c40 := (c25.wr R38)
  have c41 := (((c14.other R17 (Or.inl z9)).keep K23 nin0).other R38 (Or.inl (own_ne z2.lt ge5)))
  refine o_getF W38 (w209 hw) Via.refl c41 196 (hb hy d45_193) rfl ?_
  intro T42 W42
  refine o_istore W42 (L' := #[vr a1, vi x1, vr a2, .val (.long ((x1.toInt64) &&& (4294967295 : Int64))), .second, .val (.int ((3 : Int32) - ((((((((x1.toUInt32 >>> ((16 : Int32) &&& 31).toUInt32).toInt32).toUInt32 >>> ((8 : Int32) &&& 31).toUInt32).toInt32).toUInt32 >>> ((4 : Int32) &&& 31).toUInt32).toInt32).toUInt32 >>> ((1 : Int32) &&& 31).toUInt32).toInt32))), vi x2, .val (.long ((x2.toInt64) &&& (4294967295 : Int64))), .second, vi 2, un, un, un, un, un]) 198 (hb hy d45_196) rfl rfl <| o_iinc W42 (v := 1) (L' := #[vr a1, vi x1, vr a2, .val (.long ((x1.toInt64) &&& (4294967295 : Int64))), .second, .val (.int ((3 : Int32) - ((((((((x1.toUInt32 >>> ((16 : Int32) &&& 31).toUInt32).toInt32).toUInt32 >>> ((8 : Int32) &&& 31).toUInt32).toInt32).toUInt32 >>> ((4 : Int32) &&& 31).toUInt32).toInt32).toUInt32 >>> ((1 : Int32) &&& 31).toUInt32).toInt32))), vi x2, .val (.long ((x2.toInt64) &&& (4294967295 : Int64))), .second, vi 1, un, un, un, un, un]) 201 (hb hy d45_198) rfl (by decide) rfl rfl <| o_iload W42 203 (hb hy d45_201) rfl rfl <| o_ifN W42 206 (hb hy d45_203) (XT.i0_le_f (by decide)) rfl <| o_lload W42 208 (hb hy d45_206) rfl rfl <| o_bipush W42 (v := 32) 210 (hb hy d45_208) (by decide) rfl ?_
  refine o_lshl W42 (v := (((x2.toInt64) &&& (4294967295 : Int64)) <<< ((32 : Int32) &&& 0x3f).toInt64)) 211 (hb hy d45_210) rfl rfl <| o_aloadN W42 212 (hb hy d45_211) rfl rfl rfl ?_
  have c43 := (c26.other R38 (Or.inl (own_ne z2.lt ge5)))
  refine o_getF W42 (w207 hw) Via.refl c43 215 (hb hy d45_212) rfl ?_
  intro T44 W44
  refine o_aloadN W44 216 (hb hy d45_215) rfl rfl rfl ?_
  have c45 := (c28.other R38 (Or.inl (own_ne z2.lt ge5)))
  refine o_getF W44 (w205 hw) Via.refl c45 219 (hb hy d45_216) rfl ?_
  intro T46 W46
  refine o_aloadN W46 220 (hb hy d45_219) rfl rfl rfl ?_
  refine o_getF W46 (w209 hw) Via.refl c41 223 (hb hy d45_220) rfl ?_
  intro T47 W47
  refine o_iadd W47 (v := 2) 224 (hb hy d45_223) (by decide) rfl <| o_iload W47 226 (hb hy d45_224) rfl rfl <| o_isub W47 (v := 1) 227 (hb hy d45_226) (by decide) rfl ?_
  have c48 := (c33.other R38 (own_ne z13.lt ge5))
  refine o_iaload W47 c48 (x := x3) (i := 1) (by decide) (by decide) (by decide) rfl 228 (hb hy d45_227) rfl <| o_i2l W47 (v := (x3.toInt64)) 229 (hb hy d45_228) rfl rfl <| o_ldcJ W47 (w240 hw) 232 (hb hy d45_229) rfl <| o_land W47 (v := ((x3.toInt64) &&& (4294967295 : Int64))) 233 (hb hy d45_232) rfl rfl <| o_lor W47 (v := ((((x2.toInt64) &&& (4294967295 : Int64)) <<< ((32 : Int32) &&& 0x3f).toInt64) ||| ((x3.toInt64) &&& (4294967295 : Int64)))) 234 (hb hy d45_233) rfl rfl <| o_lstore W47 (L' := #[vr a1, vi x1, vr a2, .val (.long ((x1.toInt64) &&& (4294967295 : Int64))), .second, .val (.int ((3 : Int32) - ((((((((x1.toUInt32 >>> ((16 : Int32) &&& 31).toUInt32).toInt32).toUInt32 >>> ((8 : Int32) &&& 31).toUInt32).toInt32).toUInt32 >>> ((4 : Int32) &&& 31).toUInt32).toInt32).toUInt32 >>> ((1 : Int32) &&& 31).toUInt32).toInt32))), vi x2, .val (.long ((x2.toInt64) &&& (4294967295 : Int64))), .second, vi 1, .val (.long ((((x2.toInt64) &&& (4294967295 : Int64)) <<< ((32 : Int32) &&& 0x3f).toInt64) ||| ((x3.toInt64) &&& (4294967295 : Int64)))), .second, un, un, un]) 236 (hb hy d45_234) rfl rfl ?_
  refine o_lload W47 238 (hb hy d45_236) rfl rfl <| o_lconst W47 (v := 0) 239 (hb hy d45_238) (by decide) rfl <| o_lcmp W47 (v := (lcmpW ((((x2.toInt64) &&& (4294967295 : Int64)) <<< ((32 : Int32) &&& 0x3f).toInt64) ||| ((x3.toInt64) &&& (4294967295 : Int64))) (0 : Int64))) 240 (hb hy d45_239) rfl rfl <| o_ifN W47 243 (hb hy d45_240) (XT.i0_lt_f hc49) rfl <| o_lload W47 245 (hb hy d45_243) rfl rfl <| o_lloadN W47 246 (hb hy d45_245) rfl rfl ?_
  refine o_ldiv W47 (v := (((((x2.toInt64) &&& (4294967295 : Int64)) <<< ((32 : Int32) &&& 0x3f).toInt64) ||| ((x3.toInt64) &&& (4294967295 : Int64))) / ((x1.toInt64) &&& (4294967295 : Int64)))) 247 (hb hy d45_246) hc50 rfl rfl ?_
  refine o_l2i W47 (v := ((((((x2.toInt64) &&& (4294967295 : Int64)) <<< ((32 : Int32) &&& 0x3f).toInt64) ||| ((x3.toInt64) &&& (4294967295 : Int64))) / ((x1.toInt64) &&& (4294967295 : Int64))).toInt32)) 248 (hb hy d45_247) rfl rfl <| o_istore W47 (L' := #[vr a1, vi x1, vr a2, .val (.long ((x1.toInt64) &&& (4294967295 : Int64))), .second, .val (.int ((3 : Int32) - ((((((((x1.toUInt32 >>> ((16 : Int32) &&& 31).toUInt32).toInt32).toUInt32 >>> ((8 : Int32) &&& 31).toUInt32).toInt32).toUInt32 >>> ((4 : Int32) &&& 31).toUInt32).toInt32).toUInt32 >>> ((1 : Int32) &&& 31).toUInt32).toInt32))), vi x2, .val (.long ((x2.toInt64) &&& (4294967295 : Int64))), .second, vi 1, .val (.long ((((x2.toInt64) &&& (4294967295 : Int64)) <<< ((32 : Int32) &&& 0x3f).toInt64) ||| ((x3.toInt64) &&& (4294967295 : Int64)))), .second, .val (.int ((((((x2.toInt64) &&& (4294967295 : Int64)) <<< ((32 : Int32) &&& 0x3f).toInt64) ||| ((x3.toInt64) &&& (4294967295 : Int64))) / ((x1.toInt64) &&& (4294967295 : Int64))).toInt32)), un, un]) 250 (hb hy d45_248) rfl rfl <| o_lload W47 252 (hb hy d45_250) rfl rfl <| o_iload W47 254 (hb hy d45_252) rfl rfl <| o_i2l W47 (v := (((((((x2.toInt64) &&& (4294967295 : Int64)) <<< ((32 : Int32) &&& 0x3f).toInt64) ||| ((x3.toInt64) &&& (4294967295 : Int64))) / ((x1.toInt64) &&& (4294967295 : Int64))).toInt32).toInt64)) 255 (hb hy d45_254) rfl rfl <| o_lloadN W47 256 (hb hy d45_255) rfl rfl ?_
  refine o_lmul W47 (v := ((((((((x2.toInt64) &&& (4294967295 : Int64)) <<< ((32 : Int32) &&& 0x3f).toInt64) ||| ((x3.toInt64) &&& (4294967295 : Int64))) / ((x1.toInt64) &&& (4294967295 : Int64))).toInt32).toInt64) * ((x1.toInt64) &&& (4294967295 : Int64)))) 257 (hb hy d45_256) rfl rfl <| o_lsub W47 (v := (((((x2.toInt64) &&& (4294967295 : Int64)) <<< ((32 : Int32) &&& 0x3f).toInt64) ||| ((x3.toInt64) &&& (4294967295 : Int64))) - ((((((((x2.toInt64) &&& (4294967295 : Int64)) <<< ((32 : Int32) &&& 0x3f).toInt64) ||| ((x3.toInt64) &&& (4294967295 : Int64))) / ((x1.toInt64) &&& (4294967295 : Int64))).toInt32).toInt64) * ((x1.toInt64) &&& (4294967295 : Int64))))) 258 (hb hy d45_257) rfl rfl <| o_l2i W47 (v := ((((((x2.toInt64) &&& (4294967295 : Int64)) <<< ((32 : Int32) &&& 0x3f).toInt64) ||| ((x3.toInt64) &&& (4294967295 : Int64))) - ((((((((x2.toInt64) &&& (4294967295 : Int64)) <<< ((32 : Int32) &&& 0x3f).toInt64) ||| ((x3.toInt64) &&& (4294967295 : Int64))) / ((x1.toInt64) &&& (4294967295 : Int64))).toInt32).toInt64) * ((x1.toInt64) &&& (4294967295 : Int64)))).toInt32)) 259 (hb hy d45_258) rfl rfl <| o_istore W47 (L' := #[vr a1, vi x1, vr a2, .val (.long ((x1.toInt64) &&& (4294967295 : Int64))), .second, .val (.int ((3 : Int32) - ((((((((x1.toUInt32 >>> ((16 : Int32) &&& 31).toUInt32).toInt32).toUInt32 >>> ((8 : Int32) &&& 31).toUInt32).toInt32).toUInt32 >>> ((4 : Int32) &&& 31).toUInt32).toInt32).toUInt32 >>> ((1 : Int32) &&& 31).toUInt32).toInt32))), .val (.int ((((((x2.toInt64) &&& (4294967295 : Int64)) <<< ((32 : Int32) &&& 0x3f).toInt64) ||| ((x3.toInt64) &&& (4294967295 : Int64))) - ((((((((x2.toInt64) &&& (4294967295 : Int64)) <<< ((32 : Int32) &&& 0x3f).toInt64) ||| ((x3.toInt64) &&& (4294967295 : Int64))) / ((x1.toInt64) &&& (4294967295 : Int64))).toInt32).toInt64) * ((x1.toInt64) &&& (4294967295 : Int64)))).toInt32)), .val (.long ((x2.toInt64) &&& (4294967295 : Int64))), .second, vi 1, .val (.long ((((x2.toInt64) &&& (4294967295 : Int64)) <<< ((32 : Int32) &&& 0x3f).toInt64) ||| ((x3.toInt64) &&& (4294967295 : Int64)))), .second, .val (.int ((((((x2.toInt64) &&& (4294967295 : Int64)) <<< ((32 : Int32) &&& 0x3f).toInt64) ||| ((x3.toInt64) &&& (4294967295 : Int64))) / ((x1.toInt64) &&& (4294967295 : Int64))).toInt32)), un, un]) 261 (hb hy d45_259) rfl rfl <| o_goto W47 289 (hb hy d45_261) (by decide) rfl <| o_aloadN W47 290 (hb hy d45_289) rfl rfl rfl ?_
  have c51 := (c35.other R38 (Or.inl (own_ne z3.lt ge5)))
  refine o_getF W47 (w207 hw) Via.refl c51 293 (hb hy d45_290) rfl ?_
  intro T52 W52
  refine o_aloadN W52 294 (hb hy d45_293) rfl rfl rfl ?_
  refine o_getF W52 (w209 hw) Via.refl c41 297 (hb hy d45_294) rfl ?_
  intro T53 W53
  refine o_iload W53 299 (hb hy d45_297) rfl rfl <| o_isub W53 (v := 1) 300 (hb hy d45_299) (by decide) rfl <| o_iload W53 302 (hb hy d45_300) rfl rfl ?_
  refine o_stI W53 V38 (i := 1) (by decide) (by decide) (by decide) (Nat.lt_of_sub_eq_succ rfl) (vs' := [iZ, (.int ((((((x2.toInt64) &&& (4294967295 : Int64)) <<< ((32 : Int32) &&& 0x3f).toInt64) ||| ((x3.toInt64) &&& (4294967295 : Int64))) / ((x1.toInt64) &&& (4294967295 : Int64))).toInt32))]) rfl gz5 (Or.inr gb5) tri 303 (hb hy d45_302) rfl ?_
  intro T54 h54 lo54 W54 R54 V54
  refine o_iload W54 305 (hb hy d45_303) rfl rfl <| o_i2l W54 (v := (((((((x2.toInt64) &&& (4294967295 : Int64)) <<< ((32 : Int32) &&& 0x3f).toInt64) ||| ((x3.toInt64) &&& (4294967295 : Int64))) - ((((((((x2.toInt64) &&& (4294967295 : Int64)) <<< ((32 : Int32) &&& 0x3f).toInt64) ||| ((x3.toInt64) &&& (4294967295 : Int64))) / ((x1.toInt64) &&& (4294967295 : Int64))).toInt32).toInt64) * ((x1.toInt64) &&& (4294967295 : Int64)))).toInt32).toInt64)) 306 (hb hy d45_305) rfl rfl <| o_ldcJ W54 (w240 hw) 309 (hb hy d45_306) rfl <| o_land W54 (v := ((((((((x2.toInt64) &&& (4294967295 : Int64)) <<< ((32 : Int32) &&& 0x3f).toInt64) ||| ((x3.toInt64) &&& (4294967295 : Int64))) - ((((((((x2.toInt64) &&& (4294967295 : Int64)) <<< ((32 : Int32) &&& 0x3f).toInt64) ||| ((x3.toInt64) &&& (4294967295 : Int64))) / ((x1.toInt64) &&& (4294967295 : Int64))).toInt32).toInt64) * ((x1.toInt64) &&& (4294967295 : Int64)))).toInt32).toInt64) &&& (4294967295 : Int64))) 310 (hb hy d45_309) rfl rfl <| o_lstore W54 (L' := #[vr a1, vi x1, vr a2, .val (.long ((x1.toInt64) &&& (4294967295 : Int64))), .second, .val (.int ((3 : Int32) - ((((((((x1.toUInt32 >>> ((16 : Int32) &&& 31).toUInt32).toInt32).toUInt32 >>> ((8 : Int32) &&& 31).toUInt32).toInt32).toUInt32 >>> ((4 : Int32) &&& 31).toUInt32).toInt32).toUInt32 >>> ((1 : Int32) &&& 31).toUInt32).toInt32))), .val (.int ((((((x2.toInt64) &&& (4294967295 : Int64)) <<< ((32 : Int32) &&& 0x3f).toInt64) ||| ((x3.toInt64) &&& (4294967295 : Int64))) - ((((((((x2.toInt64) &&& (4294967295 : Int64)) <<< ((32 : Int32) &&& 0x3f).toInt64) ||| ((x3.toInt64) &&& (4294967295 : Int64))) / ((x1.toInt64) &&& (4294967295 : Int64))).toInt32).toInt64) * ((x1.toInt64) &&& (4294967295 : Int64)))).toInt32)), .val (.long ((((((((x2.toInt64) &&& (4294967295 : Int64)) <<< ((32 : Int32) &&& 0x3f).toInt64) ||| ((x3.toInt64) &&& (4294967295 : Int64))) - ((((((((x2.toInt64) &&& (4294967295 : Int64)) <<< ((32 : Int32) &&& 0x3f).toInt64) ||| ((x3.toInt64) &&& (4294967295 : Int64))) / ((x1.toInt64) &&& (4294967295 : Int64))).toInt32).toInt64) * ((x1.toInt64) &&& (4294967295 : Int64)))).toInt32).toInt64) &&& (4294967295 : Int64))), .second, vi 1, .val (.long ((((x2.toInt64) &&& (4294967295 : Int64)) <<< ((32 : Int32) &&& 0x3f).toInt64) ||| ((x3.toInt64) &&& (4294967295 : Int64)))), .second, .val (.int ((((((x2.toInt64) &&& (4294967295 : Int64)) <<< ((32 : Int32) &&& 0x3f).toInt64) ||| ((x3.toInt64) &&& (4294967295 : Int64))) / ((x1.toInt64) &&& (4294967295 : Int64))).toInt32)), un, un]) 312 (hb hy d45_310) rfl rfl <| o_goto W54 198 (hb hy d45_312) (by decide) rfl ?_
  refine o_iinc W54 (v := 0) (L' := #[vr a1, vi x1, vr a2, .val (.long ((x1.toInt64) &&& (4294967295 : Int64))), .second, .val (.int ((3 : Int32) - ((((((((x1.toUInt32 >>> ((16 : Int32) &&& 31).toUInt32).toInt32).toUInt32 >>> ((8 : Int32) &&& 31).toUInt32).toInt32).toUInt32 >>> ((4 : Int32) &&& 31).toUInt32).toInt32).toUInt32 >>> ((1 : Int32) &&& 31).toUInt32).toInt32))), .val (.int ((((((x2.toInt64) &&& (4294967295 : Int64)) <<< ((32 : Int32) &&& 0x3f).toInt64) ||| ((x3.toInt64) &&& (4294967295 : Int64))) - ((((((((x2.toInt64) &&& (4294967295 : Int64)) <<< ((32 : Int32) &&& 0x3f).toInt64) ||| ((x3.toInt64) &&& (4294967295 : Int64))) / ((x1.toInt64) &&& (4294967295 : Int64))).toInt32).toInt64) * ((x1.toInt64) &&& (4294967295 : Int64)))).toInt32)), .val (.long ((((((((x2.toInt64) &&& (4294967295 : Int64)) <<< ((32 : Int32) &&& 0x3f).toInt64) ||| ((x3.toInt64) &&& (4294967295 : Int64))) - ((((((((x2.toInt64) &&& (4294967295 : Int64)) <<< ((32 : Int32) &&& 0x3f).toInt64) ||| ((x3.toInt64) &&& (4294967295 : Int64))) / ((x1.toInt64) &&& (4294967295 : Int64))).toInt32).toInt64) * ((x1.toInt64) &&& (4294967295 : Int64)))).toInt32).toInt64) &&& (4294967295 : Int64))), .second, vi 0, .val (.long ((((x2.toInt64) &&& (4294967295 : Int64)) <<< ((32 : Int32) &&& 0x3f).toInt64) ||| ((x3.toInt64) &&& (4294967295 : Int64)))), .second, .val (.int ((((((x2.toInt64) &&& (4294967295 : Int64)) <<< ((32 : Int32) &&& 0x3f).toInt64) ||| ((x3.toInt64) &&& (4294967295 : Int64))) / ((x1.toInt64) &&& (4294967295 : Int64))).toInt32)), un, un]) 201 (hb hy d45_198) rfl (by decide) rfl rfl <| o_iload W54 203 (hb hy d45_201) rfl rfl <| o_ifY W54 315 (hb hy d45_203) (XT.i0_le_t (by decide)) (by decide) rfl <| o_aloadN W54 316 (hb hy d45_315) rfl rfl rfl ?_
  have c55 := (((F17.keep K23 nin0).other R38 (Or.inl (own_ne z3.lt ge5))).other R54 (Or.inl (own_ne z3.lt ge5)))
  have c56 := ((((F11.other R17 (Or.inr (slot_ne (Or.inl (w206 hw)) (Or.inl (w210 hw)) (by decide) (t := .int) (t' := .int) (by decide) (by decide)))).keep K23 nin0).other R38 (Or.inl (own_ne z3.lt ge5))).other R54 (Or.inl (own_ne z3.lt ge5)))
  have c57 := (c51.other R54 (Or.inl (own_ne z3.lt ge5)))
  have c59 := (c40.wr R54)
  refine o_virtualC W54 (w321 hw) (w322 hw) (o_nf W54 rfl (w324 hw)) (w324 hw) (w323 hw) (by decide) c59 (w325 hw) (w199 hw) (rm112 l hw a2 b5 k5 ((((((x2.toInt64) &&& (4294967295 : Int64)) <<< ((32 : Int32) &&& 0x3f).toInt64) ||| ((x3.toInt64) &&& (4294967295 : Int64))) / ((x1.toInt64) &&& (4294967295 : Int64))).toInt32) h54 W54.old c55 c56 c57 V54 hc58 c59 z6) 0 1 2 (by decide) (by rw [hml]; rfl) (lenOf pd0 rfl) [] rfl rfl 319 (hb hy d45_316) rfl rfl rfl (allS ⟨z6, m0⟩ all0) tri ?_
  intro v60 T60 h60 lo60 W60 K60 q60
  obtain ⟨P60_0, P60_1, P60_2, rfl⟩ := q60.2.2
  show Gl _ _ _ _ _ _ _ _ []
  refine o_iload W60 321 (hb hy d45_319) rfl rfl <| o_ifN W60 324 (hb hy d45_321) (XT.i0_le_f hc61) rfl <| o_iload W60 326 (hb hy d45_324) rfl rfl <| o_iloadN W60 327 (hb hy d45_326) rfl rfl ?_
  refine o_irem W60 (v := (((((((x2.toInt64) &&& (4294967295 : Int64)) <<< ((32 : Int32) &&& 0x3f).toInt64) ||| ((x3.toInt64) &&& (4294967295 : Int64))) - ((((((((x2.toInt64) &&& (4294967295 : Int64)) <<< ((32 : Int32) &&& 0x3f).toInt64) ||| ((x3.toInt64) &&& (4294967295 : Int64))) / ((x1.toInt64) &&& (4294967295 : Int64))).toInt32).toInt64) * ((x1.toInt64) &&& (4294967295 : Int64)))).toInt32) % x1)) 328 (hb hy d45_327) hc62 rfl rfl ?_
  have c63 := (c59.keep K60)
  have c64 := (V54.keep K60 (ninS (own_ne' z3.lt ge5) nin0))
  exact o_retI W60 hlk hret (hb hy d45_328) (by decide) (by decide) ⟨b5, k5, gb5, P60_2, P60_1, P60_0, c64, rfl⟩
theorem rm114 (l : Launch) {Z a0} (hw : HW Z a0) (gO89 : Addr) (z0 : ClassId) (a1 a2 a3 a4 : Addr) (z1 : ClassId) (a5 : Addr) (z2 : ClassId) (x1 x2 : Int32) (h0 : Heap) (O0 : Old Z Z.heap.size h0) (z3 : Fld Z h0 a2 s3 "intLen" "I" (.int 1)) (z4 : Fld Z h0 a1 s3 "intLen" "I" (.int 2)) (z5 : Exa Z h0 a1 s3) (z6 : Exa Z h0 a3 s3) (z7 : Fld Z h0 a3 s3 "intLen" "I" iZ) (z8 : Fld Z h0 a3 s3 "offset" "I" iZ) (z9 : Fld Z h0 a3 s3 "value" "[I" (.ref a4)) (z10 : Arv Z h0 a4 z1 .int 1 [iZ] iZ) (z11 : Z.heap.size ≤ a3) (z12 : Z.heap.size ≤ a4) (z13 : Exa Z h0 a2 s3) (z14 : a2 ≠ a3) (z15 : Fld Z h0 a2 s3 "value" "[I" (.ref gO89)) (z16 : Fld Z h0 a2 s3 "offset" "I" iZ) (VgO89 : Arv Z Z.heap gO89 z0 .int (1 : Int32) [(.int 1000000000)] iZ) (z17 : a1 ≠ a3) (z18 : Fld Z h0 a1 s3 "value" "[I" (.ref a5)) (z19 : Fld Z h0 a1 s3 "offset" "I" iZ) (z20 : Arv Z h0 a5 z2 .int 2 [(.int x1), (.int x2)] iZ) (z21 : a4 ≠ a5) (hc26 : (lcmpW ((x1.toInt64) &&& (4294967295 : Int64)) (((1000000000 : Int32).toInt64) &&& (4294967295 : Int64))) < (0 : Int32)) (hc27 : ¬ ((lcmpW ((((x1.toInt64) &&& (4294967295 : Int64)) <<< ((32 : Int32) &&& 0x3f).toInt64) ||| ((x2.toInt64) &&& (4294967295 : Int64))) (0 : Int64)) < (0 : Int32))) (hc28 : ¬ (((((((x1.toInt64) &&& (4294967295 : Int64)) <<< ((32 : Int32) &&& 0x3f).toInt64) ||| ((x2.toInt64) &&& (4294967295 : Int64))) / (((1000000000 : Int32).toInt64) &&& (4294967295 : Int64))).toInt32) = (0 : Int32))) (hc30 : (((((((x1.toInt64) &&& (4294967295 : Int64)) <<< ((32 : Int32) &&& 0x3f).toInt64) ||| ((x2.toInt64) &&& (4294967295 : Int64))) - ((((((((x1.toInt64) &&& (4294967295 : Int64)) <<< ((32 : Int32) &&& 0x3f).toInt64) ||| ((x2.toInt64) &&& (4294967295 : Int64))) / (((1000000000 : Int32).toInt64) &&& (4294967295 : Int64))).toInt32).toInt64) * (((1000000000 : Int32).toInt64) &&& (4294967295 : Int64)))).toInt32) % (1000000000 : Int32)) = (0 : Int32)) :
    CtrN l Z mn39 jdk_2101_method_57_code 8 (some (.object s3)) [] (⟨2, 3, 6, 41⟩ : Room) #[(.ref a1), (.ref a2), (.ref a3), (.int 1)] h0 [a4, a3] (fun v h => ∃ r1 : Addr, ∃ r2 : Addr, ∃ r3 : Addr, ∃ r4 : ClassId, ∃ r5 : ClassId, h0.size ≤ r1 ∧ h0.size ≤ r2 ∧ h0.size ≤ r3 ∧ Fld Z h a3 s3 "intLen" "I" (.int 1) ∧ Fld Z h a3 s3 "offset" "I" (.int 1) ∧ Fld Z h a3 s3 "value" "[I" (.ref r2) ∧ Arv Z h a4 z1 .int 1 [iZ] iZ ∧ Exa Z h r1 s3 ∧ Fld Z h r1 s3 "offset" "I" iZ ∧ Fld Z h r1 s3 "value" "[I" (.ref r3) ∧ Fld Z h r1 s3 "intLen" "I" iZ ∧ Arv Z h r2 r4 .int 2 [iZ, (.int ((((((x1.toInt64) &&& (4294967295 : Int64)) <<< ((32 : Int32) &&& 0x3f).toInt64) ||| ((x2.toInt64) &&& (4294967295 : Int64))) / (((1000000000 : Int32).toInt64) &&& (4294967295 : Int64))).toInt32))] iZ ∧ Arv Z h r3 r5 .int 1 [iZ] iZ ∧ v = some (.ref r1)) := by
  refine CtrN.intro (L0 := #[vr a1, vr a2, vr a3, vi 1, un, un, un, un]) (plainFor_of_name pn7) O0 (fun _ => rfl) ?_
  intro p e s m below meth c T0 hy hml hret hlk hnm W0
  refine o_aloadN W0 1 (hb hy d42_0) rfl rfl rfl ?_
  refine o_getF W0 (w209 hw) Via.refl z3 4 (hb hy d42_1) rfl ?_
  intro T1 W1
  refine o_ifY W1 17 (hb hy d42_4) (XT.i0_ne_t (by decide)) (by decide) rfl <| o_aloadN W1 18 (hb hy d42_17) rfl rfl rfl ?_
  refine o_getF W1 (w209 hw) Via.refl z4 21 (hb hy d42_18) rfl ?_
  intro T2 W2
  refine o_ifY W2 50 (hb hy d42_21) (XT.i0_ne_t (by decide)) (by decide) rfl <| o_aloadN W2 51 (hb hy d42_50) rfl rfl rfl <| o_aloadN W2 52 (hb hy d42_51) rfl rfl rfl ?_
  refine o_virtualC W2 (w224 hw) (w225 hw) (o_nf W2 rfl (w227 hw)) (w227 hw) (w226 hw) (by decide) z5 (w228 hw) (w199 hw) (rm110 l hw a1 a2 h0 W2.old z3 z4) 0 0 0 (by decide) (by rw [hml]; rfl) (lenOf pd28 rfl) [] rfl rfl 55 (hb hy d42_52) rfl rfl rfl all0 tri ?_
  intro v3 T3 h3 lo3 W3 K3 q3
  obtain rfl := q3.2.2
  show Gl _ _ _ _ _ _ _ _ [(.int 1)]
  refine o_istore W3 (L' := #[vr a1, vr a2, vr a3, vi 1, vi 1, un, un, un]) 57 (hb hy d42_55) rfl rfl <| o_iload W3 59 (hb hy d42_57) rfl rfl <| o_ifY W3 89 (hb hy d42_59) (XT.i0_ge_t (by decide)) (by decide) rfl <| o_iload W3 91 (hb hy d42_89) rfl rfl <| o_ifY W3 127 (hb hy d42_91) (XT.i0_ne_t (by decide)) (by decide) rfl <| o_aloadN W3 128 (hb hy d42_127) rfl rfl rfl ?_
  have c4 := (z6.keep K3)
  have c5 := (z7.keep K3 nin0)
  have c6 := (z8.keep K3 nin0)
  have c7 := (z9.keep K3 nin0)
  have c8 := (z10.keep K3 nin0)
  refine o_virtualC W3 (w230 hw) (w231 hw) (o_nf W3 rfl (w233 hw)) (w233 hw) (w232 hw) (by decide) c4 (w234 hw) (w199 hw) (rm45 l hw a3 a4 z1 h3 W3.old c4 c5 z11 c6 c7 c8 z12) 0 0 0 (by decide) (by rw [hml]; rfl) (lenOf pd0 rfl) [] rfl rfl 131 (hb hy d42_128) rfl rfl rfl (allS ⟨z11, (Or.inl (List.mem_of_getElem? (i := 1) rfl))⟩ (allS ⟨z12, m0⟩ all0)) tri ?_
  intro v9 T9 h9 lo9 W9 K9 q9
  obtain ⟨P9_0, P9_1, P9_2, P9_3, rfl⟩ := q9.2.2
  show Gl _ _ _ _ _ _ _ _ []
  refine o_aloadN W9 132 (hb hy d42_131) rfl rfl rfl ?_
  have c10 := ((z13.keep K3).keep K9)
  have c11 := (z13.keep K3)
  have c12 := (c4.keep K9)
  have c13 := ((z3.keep K3 nin0).keep K9 (ninS z14 (ninS (Exa.neArv c11 c8 (w198 hw)) nin0)))
  refine o_getF W9 (w209 hw) Via.refl c13 135 (hb hy d42_132) rfl ?_
  intro T14 W14
  refine o_iconst W14 (v := 1) 136 (hb hy d42_135) rfl rfl <| o_icmpN W14 139 (hb hy d42_136) (XT.ii_ne_f (by decide)) rfl <| o_aloadN W14 140 (hb hy d42_139) rfl rfl rfl <| o_aloadN W14 141 (hb hy d42_140) rfl rfl rfl ?_
  have c15 := ((z15.keep K3 nin0).keep K9 (ninS z14 (ninS (Exa.neArv c11 c8 (w198 hw)) nin0)))
  refine o_getF W14 (w207 hw) Via.refl c15 144 (hb hy d42_141) rfl ?_
  intro T16 W16
  refine o_aloadN W16 145 (hb hy d42_144) rfl rfl rfl ?_
  have c17 := ((z16.keep K3 nin0).keep K9 (ninS z14 (ninS (Exa.neArv c11 c8 (w198 hw)) nin0)))
  refine o_getF W16 (w205 hw) Via.refl c17 148 (hb hy d42_145) rfl ?_
  intro T18 W18
  refine o_iaload W18 (VgO89.ext W18.ox) (x := (1000000000 : Int32)) (i := 0) (by decide) (by decide) (by decide) rfl 149 (hb hy d42_148) rfl <| o_aloadN W18 150 (hb hy d42_149) rfl rfl rfl ?_
  have c19 := ((z5.keep K3).keep K9)
  have c20 := (z5.keep K3)
  have c21 := ((z4.keep K3 nin0).keep K9 (ninS z17 (ninS (Exa.neArv c20 c8 (w198 hw)) nin0)))
  have c22 := ((z18.keep K3 nin0).keep K9 (ninS z17 (ninS (Exa.neArv c20 c8 (w198 hw)) nin0)))
  have c23 := ((z19.keep K3 nin0).keep K9 (ninS z17 (ninS (Exa.neArv c20 c8 (w198 hw)) nin0)))
  have c24 := (z20.keep K3 nin0)
  have c25 := ((z20.keep K3 nin0).keep K9 (ninS (Ne.symm (Exa.neArv c4 c24 (w198 hw))) (ninS (Ne.symm z21) nin0)))
  refine o_virtualC W18 (w235 hw) (w236 hw) (o_nf W18 rfl (w238 hw)) (w238 hw) (w237 hw) (by decide) c19 (w239 hw) (w199 hw) (rm113 l hw a1 (1000000000 : Int32) a3 a4 z1 a5 z2 x1 x2 h9 W18.old c21 P9_2 P9_3 c12 z11 P9_1 c19 z17 P9_0 (by decide) (by decide) (by decide) (by decide) (by decide) c22 c23 c25 hc26 hc27 (by decide) hc28 (by decide) (by decide)) 0 1 2 (by decide) (by rw [hml]; rfl) (lenOf pd29 rfl) [] rfl rfl 153 (hb hy d42_150) rfl rfl rfl (allS ⟨z11, (Or.inl (List.mem_of_getElem? (i := 1) rfl))⟩ all0) tri ?_
  intro v29 T29 h29 lo29 W29 K29 q29
  obtain ⟨r1_29, r2_29, P29_0, P29_1, P29_2, P29_3, P29_4, rfl⟩ := q29.2.2
  show Gl _ _ _ _ _ _ _ _ [(.int (((((((x1.toInt64) &&& (4294967295 : Int64)) <<< ((32 : Int32) &&& 0x3f).toInt64) ||| ((x2.toInt64) &&& (4294967295 : Int64))) - ((((((((x1.toInt64) &&& (4294967295 : Int64)) <<< ((32 : Int32) &&& 0x3f).toInt64) ||| ((x2.toInt64) &&& (4294967295 : Int64))) / (((1000000000 : Int32).toInt64) &&& (4294967295 : Int64))).toInt32).toInt64) * (((1000000000 : Int32).toInt64) &&& (4294967295 : Int64)))).toInt32) % (1000000000 : Int32)))]
  refine o_istore W29 (L' := #[vr a1, vr a2, vr a3, vi 1, vi 1, .val (.int (((((((x1.toInt64) &&& (4294967295 : Int64)) <<< ((32 : Int32) &&& 0x3f).toInt64) ||| ((x2.toInt64) &&& (4294967295 : Int64))) - ((((((((x1.toInt64) &&& (4294967295 : Int64)) <<< ((32 : Int32) &&& 0x3f).toInt64) ||| ((x2.toInt64) &&& (4294967295 : Int64))) / (((1000000000 : Int32).toInt64) &&& (4294967295 : Int64))).toInt32).toInt64) * (((1000000000 : Int32).toInt64) &&& (4294967295 : Int64)))).toInt32) % (1000000000 : Int32))), un, un]) 155 (hb hy d42_153) rfl rfl <| o_iloadN W29 156 (hb hy d42_155) rfl rfl <| o_ifN W29 159 (hb hy d42_156) (XT.i0_eq_f (by decide)) rfl <| o_iload W29 161 (hb hy d42_159) rfl rfl <| o_ifN W29 164 (hb hy d42_161) (XT.i0_ne_f hc30) rfl ?_
  refine o_new W29 (w241 hw) (w198 hw) (w199 hw) tri 167 (hb hy d42_164) rfl (cells' := 2) (slots' := 5) rfl rfl (by decide) (by decide) ?_
  intro b31 T31 h31 W31 E31 ge31 gz31 gb31 A31 D31
  have Fb31_offset : Fld Z h31 b31 s3 "offset" "I" iZ := D31 (Or.inl (w206 hw)) (ty := .int) (by decide)
  have Fb31_value : Fld Z h31 b31 s3 "value" "[I" .null := D31 (Or.inl (w208 hw)) (ty := (.array .int)) (by decide)
  have Fb31_intLen : Fld Z h31 b31 s3 "intLen" "I" iZ := D31 (Or.inl (w210 hw)) (ty := .int) (by decide)
  refine o_dup W31 168 (hb hy d42_167) rfl rfl ?_
  refine o_specialC W31 rfl (w242 hw) (w201 hw) (w203 hw) (by decide) (w199 hw) (rm41 l hw b31 h31 W31.old A31 Fb31_offset gz31 Fb31_value Fb31_intLen) 1 3 6 (by decide) (by rw [hml]; rfl) (lenOf pd0 rfl) [(.ref b31)] rfl rfl 171 (hb hy d42_168) rfl rfl rfl (allS ⟨gz31, (Or.inr gb31)⟩ all0) tri ?_
  intro v32 T32 h32 lo32 W32 K32 q32
  obtain ⟨r1_32, r2_32, P32_0, P32_1, P32_2, P32_3, P32_4, rfl⟩ := q32.2.2
  show Gl _ _ _ _ _ _ _ _ [(.ref b31)]
  have c33 := (c12.keep K29)
  have c34 := ((P29_3.ext E31).keep K32 (ninS (own_ne c33.lt ge31) nin0))
  have c35 := ((P29_2.ext E31).keep K32 (ninS (own_ne c33.lt ge31) nin0))
  have c36 := ((P29_1.ext E31).keep K32 (ninS (own_ne c33.lt ge31) nin0))
  have c37 := ((c33.ext E31).keep K32)
  have c38 := (P9_3.keep K29 (ninS (Ne.symm (Exa.neArv c12 P9_3 (w198 hw))) nin0))
  have c39 := (((P9_3.keep K29 (ninS (Ne.symm (Exa.neArv c12 P9_3 (w198 hw))) nin0)).ext E31).keep K32 (ninS (own_ne c38.lt ge31) nin0))
  have c40 := (A31.keep K32)
  have c41 := ((P29_4.ext E31).keep K32 (ninS (own_ne P29_4.lt ge31) nin0))
  exact o_retA W32 hlk (v := (.ref b31)) hret rfl rfl (hb hy d42_171) (by decide) (by decide) ⟨b31, r1_29, r1_32, r2_29, r2_32, gb31, (Nat.le_trans W18.keep.1 P29_0), (Nat.le_trans W31.keep.1 P32_0), c34, c35, c36, c39, c40, P32_1, P32_2, P32_3, c41, P32_4, rfl⟩
theorem rm115 (l : Launch) {Z a0} (hw : HW Z a0) (gO89 : Addr) (z0 : ClassId) (a1 a2 a3 a4 : Addr) (z1 : ClassId) (a5 : Addr) (z2 : ClassId) (x1 x2 : Int32) (h0 : Heap) (O0 : Old Z Z.heap.size h0) (z3 : Exa Z h0 a1 s3) (z4 : Fld Z h0 a2 s3 "intLen" "I" (.int 1)) (z5 : Fld Z h0 a1 s3 "intLen" "I" (.int 2)) (z6 : Exa Z h0 a3 s3) (z7 : Fld Z h0 a3 s3 "intLen" "I" iZ) (z8 : Fld Z h0 a3 s3 "offset" "I" iZ) (z9 : Fld Z h0 a3 s3 "value" "[I" (.ref a4)) (z10 : Arv Z h0 a4 z1 .int 1 [iZ] iZ) (z11 : Exa Z h0 a2 s3) (z12 : Fld Z h0 a2 s3 "value" "[I" (.ref gO89)) (z13 : Fld Z h0 a2 s3 "offset" "I" iZ) (VgO89 : Arv Z Z.heap gO89 z0 .int (1 : Int32) [(.int 1000000000)] iZ) (z14 : Fld Z h0 a1 s3 "value" "[I" (.ref a5)) (z15 : Fld Z h0 a1 s3 "offset" "I" iZ) (z16 : Arv Z h0 a5 z2 .int 2 [(.int x1), (.int x2)] iZ) (hc1 : (lcmpW ((x1.toInt64) &&& (4294967295 : Int64)) (((1000000000 : Int32).toInt64) &&& (4294967295 : Int64))) < (0 : Int32)) (hc2 : ¬ ((lcmpW ((((x1.toInt64) &&& (4294967295 : Int64)) <<< ((32 : Int32) &&& 0x3f).toInt64) ||| ((x2.toInt64) &&& (4294967295 : Int64))) (0 : Int64)) < (0 : Int32))) (hc3 : ¬ (((((((x1.toInt64) &&& (4294967295 : Int64)) <<< ((32 : Int32) &&& 0x3f).toInt64) ||| ((x2.toInt64) &&& (4294967295 : Int64))) / (((1000000000 : Int32).toInt64) &&& (4294967295 : Int64))).toInt32) = (0 : Int32))) (hc4 : (((((((x1.toInt64) &&& (4294967295 : Int64)) <<< ((32 : Int32) &&& 0x3f).toInt64) ||| ((x2.toInt64) &&& (4294967295 : Int64))) - ((((((((x1.toInt64) &&& (4294967295 : Int64)) <<< ((32 : Int32) &&& 0x3f).toInt64) ||| ((x2.toInt64) &&& (4294967295 : Int64))) / (((1000000000 : Int32).toInt64) &&& (4294967295 : Int64))).toInt32).toInt64) * (((1000000000 : Int32).toInt64) &&& (4294967295 : Int64)))).toInt32) % (1000000000 : Int32)) = (0 : Int32)) (z17 : Z.heap.size ≤ a3) (z18 : Z.heap.size ≤ a4) (z19 : a2 ≠ a3) (z20 : a1 ≠ a3) (z21 : a4 ≠ a5) :
    CtrN l Z mn40 jdk_2101_method_56_code 3 (some (.object s3)) [] (⟨3, 3, 6, 60⟩ : Room) #[(.ref a1), (.ref a2), (.ref a3)] h0 [a3, a4] (fun v h => ∃ r1 : Addr, ∃ r2 : Addr, ∃ r3 : Addr, ∃ r4 : ClassId, ∃ r5 : ClassId, h0.size ≤ r1 ∧ h0.size ≤ r2 ∧ h0.size ≤ r3 ∧ Fld Z h a3 s3 "intLen" "I" (.int 1) ∧ Fld Z h a3 s3 "offset" "I" (.int 1) ∧ Fld Z h a3 s3 "value" "[I" (.ref r2) ∧ Arv Z h a4 z1 .int 1 [iZ] iZ ∧ Exa Z h r1 s3 ∧ Fld Z h r1 s3 "offset" "I" iZ ∧ Fld Z h r1 s3 "value" "[I" (.ref r3) ∧ Fld Z h r1 s3 "intLen" "I" iZ ∧ Arv Z h r2 r4 .int 2 [iZ, (.int ((((((x1.toInt64) &&& (4294967295 : Int64)) <<< ((32 : Int32) &&& 0x3f).toInt64) ||| ((x2.toInt64) &&& (4294967295 : Int64))) / (((1000000000 : Int32).toInt64) &&& (4294967295 : Int64))).toInt32))] iZ ∧ Arv Z h r3 r5 .int 1 [iZ] iZ ∧ v = some (.ref r1)) := by
  refine CtrN.intro (L0 := #[vr a1, vr a2, vr a3]) (plainFor_of_name pn7) O0 (fun _ => rfl) ?_
  intro p e s m below meth c T0 hy hml hret hlk hnm W0
  refine o_aloadN W0 1 (hb hy d41_0) rfl rfl rfl <| o_aloadN W0 2 (hb hy d41_1) rfl rfl rfl <| o_aloadN W0 3 (hb hy d41_2) rfl rfl rfl <| o_iconst W0 (v := 1) 4 (hb hy d41_3) rfl rfl ?_
  refine o_virtualC W0 (w219 hw) (w220 hw) (o_nf W0 rfl (w222 hw)) (w222 hw) (w221 hw) (by decide) z3 (w223 hw) (w199 hw) (rm114 l hw gO89 z0 a1 a2 a3 a4 z1 a5 z2 x1 x2 h0 W0.old z4 z5 z3 z6 z7 z8 z9 z10 z17 z18 z11 z19 z12 z13 VgO89 z20 z14 z15 z16 z21 hc1 hc2 hc3 hc4) 0 3 6 (by decide) (by rw [hml]; rfl) (lenOf pd30 rfl) [] rfl rfl 7 (hb hy d41_4) rfl rfl rfl (allS ⟨z18, (Or.inl (List.mem_of_getElem? (i := 1) rfl))⟩ (allS ⟨z17, m0⟩ all0)) tri ?_
  intro v5 T5 h5 lo5 W5 K5 q5
  obtain ⟨r1_5, r2_5, r3_5, r4_5, r5_5, P5_0, P5_1, P5_2, P5_3, P5_4, P5_5, P5_6, P5_7, P5_8, P5_9, P5_10, P5_11, P5_12, rfl⟩ := q5.2.2
  show Gl _ _ _ _ _ _ _ _ [(.ref r1_5)]
  have c6 := (z6.keep K5)
  exact o_retA W5 hlk (v := (.ref r1_5)) hret rfl rfl (hb hy d41_7) (by decide) (by decide) ⟨r1_5, r2_5, r3_5, r4_5, r5_5, (Nat.le_trans W0.keep.1 P5_0), (Nat.le_trans W0.keep.1 P5_1), (Nat.le_trans W0.keep.1 P5_2), P5_3, P5_4, P5_5, P5_6, P5_7, P5_8, P5_9, P5_10, P5_11, P5_12, rfl⟩
theorem rm116 (l : Launch) {Z a0} (hw : HW Z a0)  (h0 : Heap) (O0 : Old Z Z.heap.size h0) :
    CtrN l Z mn61 jdk_65_method_131_code 2 none [] (⟨0, 0, 0, 0⟩ : Room) #[(.int 1), (.int 2)] h0 [] (fun v h => v = none) := by
  refine CtrN.intro (L0 := #[vi 1, vi 2]) (plainFor_of_name pn9) O0 (fun _ => rfl) ?_
  intro p e s m below meth c T0 hy hml hret hlk hnm W0
  refine o_iloadN W0 1 (hb hy d65_0) rfl rfl <| o_iloadN W0 2 (hb hy d65_1) rfl rfl <| o_icmpY W0 37 (hb hy d65_2) (XT.ii_ge_t (by decide)) (by decide) rfl ?_
  exact o_ret0 W0 hlk hret (hb hy d65_37) (by decide) (by decide) rfl
theorem rm117 (l : Launch) {Z a0} (hw : HW Z a0)  (h0 : Heap) (O0 : Old Z Z.heap.size h0) :
    CtrN l Z mn1 jdk_29_method_69_code 2 (some .int) [] (⟨0, 0, 0, 0⟩ : Room) #[(.int 1), (.int 1)] h0 [] (fun v h => v = some (.int 1)) := by
  refine CtrN.intro (L0 := #[vi 1, vi 1]) (Jvm.Free.JP.mathPlain rfl (by decide +kernel)) O0 (fun _ => rfl) ?_
  intro p e s m below meth c T0 hy hml hret hlk hnm W0
  refine o_iloadN W0 1 (hb hy d5_0) rfl rfl <| o_iloadN W0 2 (hb hy d5_1) rfl rfl <| o_icmpN W0 5 (hb hy d5_2) (XT.ii_gt_f (by decide)) rfl <| o_iloadN W0 6 (hb hy d5_5) rfl rfl <| o_goto W0 10 (hb hy d5_6) (by decide) rfl ?_
  exact o_retI W0 hlk hret (hb hy d5_10) (by decide) (by decide) rfl
theorem rm118 (l : Launch) {Z a0} (hw : HW Z a0) (a1 : Addr) (z0 : ClassId) (x1 : Int32) (h0 : Heap) (O0 : Old Z Z.heap.size h0) (z1 : Arv Z h0 a1 z0 .int 2 [iZ, (.int x1)] iZ) :
    CtrN l Z mn62 jdk_65_method_137_code 5 (some (.array .int)) [] (⟨1, 1, 1, 27⟩ : Room) #[(.ref a1), (.int 1), (.int 2)] h0 [] (fun v h => ∃ r1 : Addr, ∃ r2 : ClassId, h0.size ≤ r1 ∧ Arv Z h r1 r2 .int 1 [(.int x1)] iZ ∧ v = some (.ref r1)) := by
  refine CtrN.intro (L0 := #[vr a1, vi 1, vi 2, un, un]) (plainFor_of_name pn9) O0 (fun _ => rfl) ?_
  intro p e s m below meth c T0 hy hml hret hlk hnm W0
  refine o_iloadN W0 1 (hb hy d64_0) rfl rfl <| o_iloadN W0 2 (hb hy d64_1) rfl rfl ?_
  refine o_staticC W0 (w333 hw) (w334 hw) (w328 hw) (w335 hw) (by decide) (rm116 l hw  h0 W0.old ) 0 0 0 (by decide) (by rw [hml]; rfl) (lenOf pd41 rfl) [] rfl rfl 5 (hb hy d64_2) rfl rfl rfl all0 tri ?_
  intro v1 T1 h1 lo1 W1 K1 q1
  obtain rfl := q1.2.2
  show Gl _ _ _ _ _ _ _ _ []
  refine o_iloadN W1 6 (hb hy d64_5) rfl rfl <| o_iloadN W1 7 (hb hy d64_6) rfl rfl <| o_isub W1 (v := 1) 8 (hb hy d64_7) (by decide) rfl <| o_istoreN W1 (L' := #[vr a1, vi 1, vi 2, vi 1, un]) 9 (hb hy d64_8) rfl rfl <| o_iloadN W1 10 (hb hy d64_9) rfl rfl ?_
  refine o_newP W1 (aty := .int) (w182 hw) tri (by decide) (cap := 1) (by decide) (by decide) 12 (hb hy d64_10) rfl (cells' := 1) (slots' := 1) rfl rfl (by decide) (by decide) (vs := [iZ]) (dv := iZ) rfl rfl ?_
  intro b2 T2 h2 k2 W2 E2 ge2 gz2 gb2 V2
  refine o_astore W2 (L' := #[vr a1, vi 1, vi 2, vi 1, vr b2]) 14 (hb hy d64_12) rfl rfl rfl <| o_aloadN W2 15 (hb hy d64_14) rfl rfl rfl <| o_iloadN W2 16 (hb hy d64_15) rfl rfl <| o_aload W2 18 (hb hy d64_16) rfl rfl rfl <| o_iconst W2 (v := 0) 19 (hb hy d64_18) rfl rfl <| o_aloadN W2 20 (hb hy d64_19) rfl rfl rfl ?_
  have c3 := ((z1.keep K1 nin0).ext E2)
  refine o_len W2 c3 21 (hb hy d64_20) rfl <| o_iloadN W2 22 (hb hy d64_21) rfl rfl <| o_isub W2 (v := 1) 23 (hb hy d64_22) (by decide) rfl <| o_iloadN W2 24 (hb hy d64_23) rfl rfl ?_
  refine o_staticC W2 (w336 hw) (w22 hw) (w23 hw) (w24 hw) (by decide) (rm117 l hw  h2 W2.old ) 4 1 1 (by decide) (by rw [hml]; rfl) (lenOf pd1 rfl) [iZ, (.ref b2), (.int 1), (.ref a1)] rfl rfl 27 (hb hy d64_24) rfl rfl rfl all0 tri ?_
  intro v4 T4 h4 lo4 W4 K4 q4
  obtain rfl := q4.2.2
  show Gl _ _ _ _ _ _ _ _ [(.int 1), iZ, (.ref b2), (.int 1), (.ref a1)]
  have c5 := (c3.keep K4 nin0)
  have c6 := (V2.keep K4 nin0)
  refine o_copy W4 (w337 hw) (w340 hw) (w338 hw) (w339 hw) c5 c6 (us := [(.int x1)]) (Or.inl ⟨rfl, rfl⟩) (by decide) (by decide) (by decide) (by decide) (by decide) rfl (Nat.le_of_ble_eq_true rfl) (vd' := [(.int x1)]) rfl gz2 (Or.inr gb2) tri (by rw [hml]; rfl) 30 (hb hy d64_27) rfl (by decide) 0 (by exact Nat.le_of_eq rfl) (by decide) ?_
  intro T7 h7 lo7 W7 K7 V7
  refine o_aload W7 32 (hb hy d64_30) rfl rfl rfl ?_
  exact o_retA W7 hlk (v := (.ref b2)) hret rfl rfl (hb hy d64_32) (by decide) (by decide) ⟨b2, k2, gb2, V7, rfl⟩
theorem rm119 (l : Launch) {Z a0} (hw : HW Z a0) (a1 : Addr) (z0 : ClassId) (x1 : Int32) (h0 : Heap) (O0 : Old Z Z.heap.size h0) (z1 : Arv Z h0 a1 z0 .int 2 [iZ, (.int x1)] iZ) :
    CtrN l Z mn63 jdk_65_method_136_code 3 (some (.array .int)) [] (⟨2, 1, 1, 43⟩ : Room) #[(.ref a1), (.int 1), (.int 2)] h0 [] (fun v h => ∃ r1 : Addr, ∃ r2 : ClassId, h0.size ≤ r1 ∧ Arv Z h r1 r2 .int 1 [(.int x1)] iZ ∧ v = some (.ref r1)) := by
  refine CtrN.intro (L0 := #[vr a1, vi 1, vi 2]) (plainFor_of_name pn9) O0 (fun _ => rfl) ?_
  intro p e s m below meth c T0 hy hml hret hlk hnm W0
  refine o_iloadN W0 1 (hb hy d63_0) rfl rfl <| o_ifY W0 10 (hb hy d63_1) (XT.i0_ne_t (by decide)) (by decide) rfl <| o_aloadN W0 11 (hb hy d63_10) rfl rfl rfl <| o_iloadN W0 12 (hb hy d63_11) rfl rfl <| o_iloadN W0 13 (hb hy d63_12) rfl rfl ?_
  refine o_staticC W0 (w330 hw) (w331 hw) (w328 hw) (w332 hw) (by decide) (rm118 l hw a1 z0 x1 h0 W0.old z1) 0 1 1 (by decide) (by rw [hml]; rfl) (lenOf pd42 rfl) [] rfl rfl 16 (hb hy d63_13) rfl rfl rfl all0 tri ?_
  intro v1 T1 h1 lo1 W1 K1 q1
  obtain ⟨r1_1, r2_1, P1_0, P1_1, rfl⟩ := q1.2.2
  show Gl _ _ _ _ _ _ _ _ [(.ref r1_1)]
  exact o_retA W1 hlk (v := (.ref r1_1)) hret rfl rfl (hb hy d63_16) (by decide) (by decide) ⟨r1_1, r2_1, (Nat.le_trans W0.keep.1 P1_0), P1_1, rfl⟩
theorem rm120 (l : Launch) {Z a0} (hw : HW Z a0) (a1 : Addr) (z0 : ClassId) (x1 : Int32) (h0 : Heap) (O0 : Old Z Z.heap.size h0) (z1 : Arv Z h0 a1 z0 .int 2 [iZ, (.int x1)] iZ) (z2 : Z.heap.size ≤ a1) :
    CtrN l Z mn64 jdk_65_method_103_code 4 none [] (⟨0, 0, 0, 0⟩ : Room) #[(.ref a1), iZ] h0 [a1] (fun v h => Arv Z h a1 z0 .int 2 [iZ, iZ] iZ ∧ v = none) := by
  refine CtrN.intro (L0 := #[vr a1, vi 0, un, un]) (plainFor_of_name pn9) O0 (fun _ => rfl) ?_
  intro p e s m below meth c T0 hy hml hret hlk hnm W0
  refine o_iconst W0 (v := 0) 1 (hb hy d66_0) rfl rfl <| o_istoreN W0 (L' := #[vr a1, vi 0, vi 0, un]) 2 (hb hy d66_1) rfl rfl <| o_aloadN W0 3 (hb hy d66_2) rfl rfl rfl <| o_len W0 z1 4 (hb hy d66_3) rfl <| o_istoreN W0 (L' := #[vr a1, vi 0, vi 0, vi 2]) 5 (hb hy d66_4) rfl rfl <| o_iloadN W0 6 (hb hy d66_5) rfl rfl ?_
  refine o_iloadN W0 7 (hb hy d66_6) rfl rfl <| o_icmpN W0 10 (hb hy d66_7) (XT.ii_ge_f (by decide)) rfl <| o_aloadN W0 11 (hb hy d66_10) rfl rfl rfl <| o_iloadN W0 12 (hb hy d66_11) rfl rfl <| o_iloadN W0 13 (hb hy d66_12) rfl rfl ?_
  refine o_stI W0 z1 (i := 0) (by decide) (by decide) (by decide) (Nat.lt_of_sub_eq_succ rfl) (vs' := [iZ, (.int x1)]) rfl z2 m0 tri 14 (hb hy d66_13) rfl ?_
  intro T1 h1 lo1 W1 R1 V1
  refine o_iinc W1 (v := 1) (L' := #[vr a1, vi 0, vi 1, vi 2]) 17 (hb hy d66_14) rfl (by decide) rfl rfl <| o_goto W1 5 (hb hy d66_17) (by decide) rfl <| o_iloadN W1 6 (hb hy d66_5) rfl rfl <| o_iloadN W1 7 (hb hy d66_6) rfl rfl <| o_icmpN W1 10 (hb hy d66_7) (XT.ii_ge_f (by decide)) rfl <| o_aloadN W1 11 (hb hy d66_10) rfl rfl rfl ?_
  refine o_iloadN W1 12 (hb hy d66_11) rfl rfl <| o_iloadN W1 13 (hb hy d66_12) rfl rfl ?_
  refine o_stI W1 V1 (i := 1) (by decide) (by decide) (by decide) (Nat.lt_of_sub_eq_succ rfl) (vs' := [iZ, iZ]) rfl z2 m0 tri 14 (hb hy d66_13) rfl ?_
  intro T2 h2 lo2 W2 R2 V2
  refine o_iinc W2 (v := 2) (L' := #[vr a1, vi 0, vi 2, vi 2]) 17 (hb hy d66_14) rfl (by decide) rfl rfl <| o_goto W2 5 (hb hy d66_17) (by decide) rfl <| o_iloadN W2 6 (hb hy d66_5) rfl rfl <| o_iloadN W2 7 (hb hy d66_6) rfl rfl <| o_icmpY W2 20 (hb hy d66_7) (XT.ii_ge_t (by decide)) (by decide) rfl ?_
  exact o_ret0 W2 hlk hret (hb hy d66_20) (by decide) (by decide) ⟨V2, rfl⟩
theorem rm121 (l : Launch) {Z a0} (hw : HW Z a0) (a1 a2 : Addr) (z0 : ClassId) (x1 : Int32) (h0 : Heap) (O0 : Old Z Z.heap.size h0) (z1 : Fld Z h0 a1 s3 "offset" "I" (.int 1)) (z2 : Fld Z h0 a1 s3 "value" "[I" (.ref a2)) (z3 : Fld Z h0 a1 s3 "intLen" "I" (.int 1)) (z4 : Arv Z h0 a2 z0 .int 2 [iZ, (.int x1)] iZ) (z5 : Z.heap.size ≤ a2) (z6 : Exa Z h0 a1 s3) (z7 : Z.heap.size ≤ a1) :
    CtrN l Z mn41 jdk_2101_method_7_code 2 (some (.array .int)) [] (⟨3, 1, 1, 57⟩ : Room) #[(.ref a1)] h0 [a2, a1] (fun v h => ∃ r1 : Addr, ∃ r2 : ClassId, h0.size ≤ r1 ∧ Fld Z h a1 s3 "offset" "I" iZ ∧ Fld Z h a1 s3 "value" "[I" (.ref r1) ∧ Fld Z h a1 s3 "intLen" "I" (.int 1) ∧ Arv Z h a2 z0 .int 2 [iZ, iZ] iZ ∧ Arv Z h r1 r2 .int 1 [(.int x1)] iZ ∧ v = some (.ref r1)) := by
  refine CtrN.intro (L0 := #[vr a1, un]) (plainFor_of_name pn7) O0 (fun _ => rfl) ?_
  intro p e s m below meth c T0 hy hml hret hlk hnm W0
  refine o_aloadN W0 1 (hb hy d47_0) rfl rfl rfl ?_
  refine o_getF W0 (w205 hw) Via.refl z1 4 (hb hy d47_1) rfl ?_
  intro T1 W1
  refine o_ifY W1 19 (hb hy d47_4) (XT.i0_gt_t (by decide)) (by decide) rfl <| o_aloadN W1 20 (hb hy d47_19) rfl rfl rfl ?_
  refine o_getF W1 (w207 hw) Via.refl z2 23 (hb hy d47_20) rfl ?_
  intro T2 W2
  refine o_aloadN W2 24 (hb hy d47_23) rfl rfl rfl ?_
  refine o_getF W2 (w205 hw) Via.refl z1 27 (hb hy d47_24) rfl ?_
  intro T3 W3
  refine o_aloadN W3 28 (hb hy d47_27) rfl rfl rfl ?_
  refine o_getF W3 (w205 hw) Via.refl z1 31 (hb hy d47_28) rfl ?_
  intro T4 W4
  refine o_aloadN W4 32 (hb hy d47_31) rfl rfl rfl ?_
  refine o_getF W4 (w209 hw) Via.refl z3 35 (hb hy d47_32) rfl ?_
  intro T5 W5
  refine o_iadd W5 (v := 2) 36 (hb hy d47_35) (by decide) rfl ?_
  refine o_staticC W5 (w326 hw) (w327 hw) (w328 hw) (w329 hw) (by decide) (rm119 l hw a2 z0 x1 h0 W5.old z4) 0 1 1 (by decide) (by rw [hml]; rfl) (lenOf pd42 rfl) [] rfl rfl 39 (hb hy d47_36) rfl rfl rfl all0 tri ?_
  intro v6 T6 h6 lo6 W6 K6 q6
  obtain ⟨r1_6, r2_6, P6_0, P6_1, rfl⟩ := q6.2.2
  show Gl _ _ _ _ _ _ _ _ [(.ref r1_6)]
  refine o_astoreN W6 (L' := #[vr a1, vr r1_6]) 40 (hb hy d47_39) rfl rfl rfl <| o_aloadN W6 41 (hb hy d47_40) rfl rfl rfl ?_
  have c7 := (z2.keep K6 nin0)
  refine o_getF W6 (w207 hw) Via.refl c7 44 (hb hy d47_41) rfl ?_
  intro T8 W8
  refine o_iconst W8 (v := 0) 45 (hb hy d47_44) rfl rfl ?_
  have c9 := (z4.keep K6 nin0)
  refine o_staticC W8 (w341 hw) (w342 hw) (w328 hw) (w343 hw) (by decide) (rm120 l hw a2 z0 x1 h6 W8.old c9 z5) 0 1 1 (by decide) (by rw [hml]; rfl) (lenOf pd33 rfl) [] rfl rfl 48 (hb hy d47_45) rfl rfl rfl (allS ⟨z5, m0⟩ all0) tri ?_
  intro v10 T10 h10 lo10 W10 K10 q10
  obtain ⟨P10_0, rfl⟩ := q10.2.2
  show Gl _ _ _ _ _ _ _ _ []
  refine o_aloadN W10 49 (hb hy d47_48) rfl rfl rfl <| o_iconst W10 (v := 0) 50 (hb hy d47_49) rfl rfl ?_
  have c11 := ((z6.keep K6).keep K10)
  have c12 := (z6.keep K6)
  have c13 := ((z1.keep K6 nin0).keep K10 (ninS (Exa.neArv c12 c9 (w198 hw)) nin0))
  refine o_putF W10 (w205 hw) Via.refl c13 c11 (Or.inl (w206 hw)) (w198 hw) (ty := .int) (v' := iZ) (by decide) rfl rfl z7 (Or.inl (List.mem_of_getElem? (i := 1) rfl)) tri 53 (hb hy d47_50) rfl ?_
  intro T14 h14 lo14 W14 R14
  have F14 := c13.same R14
  refine o_aloadN W14 54 (hb hy d47_53) rfl rfl rfl <| o_aloadN W14 55 (hb hy d47_54) rfl rfl rfl ?_
  have c15 := ((P6_1.keep K10 (ninS (own_ne' z4.lt P6_0) nin0)).other R14 (own_ne' z1.lt P6_0))
  refine o_len W14 c15 56 (hb hy d47_55) rfl ?_
  have c16 := (c11.wr R14)
  have c17 := (((z3.keep K6 nin0).keep K10 (ninS (Exa.neArv c12 c9 (w198 hw)) nin0)).other R14 (Or.inr (slot_ne (Or.inl (w210 hw)) (Or.inl (w206 hw)) (by decide) (t := .int) (t' := .int) (by decide) (by decide))))
  refine o_putF W14 (w209 hw) Via.refl c17 c16 (Or.inl (w210 hw)) (w198 hw) (ty := .int) (v' := (.int 1)) (by decide) rfl rfl z7 (Or.inl (List.mem_of_getElem? (i := 1) rfl)) tri 59 (hb hy d47_56) rfl ?_
  intro T18 h18 lo18 W18 R18
  have F18 := c17.same R18
  refine o_aloadN W18 60 (hb hy d47_59) rfl rfl rfl <| o_aloadN W18 61 (hb hy d47_60) rfl rfl rfl ?_
  have c19 := (c16.wr R18)
  have c20 := (((c7.keep K10 (ninS (Exa.neArv c12 c9 (w198 hw)) nin0)).other R14 (Or.inr (slot_ne (Or.inl (w208 hw)) (Or.inl (w206 hw)) (by decide) (t := (.array .int)) (t' := .int) (by decide) (by decide)))).other R18 (Or.inr (slot_ne (Or.inl (w208 hw)) (Or.inl (w210 hw)) (by decide) (t := (.array .int)) (t' := .int) (by decide) (by decide))))
  refine o_putF W18 (w207 hw) Via.refl c20 c19 (Or.inl (w208 hw)) (w198 hw) (ty := (.array .int)) (v' := (.ref r1_6)) (by decide) rfl rfl z7 (Or.inl (List.mem_of_getElem? (i := 1) rfl)) tri 64 (hb hy d47_61) rfl ?_
  intro T21 h21 lo21 W21 R21
  have F21 := c20.same R21
  refine o_aloadN W21 65 (hb hy d47_64) rfl rfl rfl ?_
  refine o_getF W21 (w207 hw) Via.refl F21 68 (hb hy d47_65) rfl ?_
  intro T22 W22
  have c23 := (F18.other R21 (Or.inr (slot_ne (Or.inl (w210 hw)) (Or.inl (w208 hw)) (by decide) (t := .int) (t' := (.array .int)) (by decide) (by decide))))
  have c24 := ((F14.other R18 (Or.inr (slot_ne (Or.inl (w206 hw)) (Or.inl (w210 hw)) (by decide) (t := .int) (t' := .int) (by decide) (by decide)))).other R21 (Or.inr (slot_ne (Or.inl (w206 hw)) (Or.inl (w208 hw)) (by decide) (t := .int) (t' := (.array .int)) (by decide) (by decide))))
  have c25 := (c19.wr R21)
  have c26 := (P10_0.other R14 (Ne.symm (Exa.neArv c11 P10_0 (w198 hw))))
  have c27 := (c26.other R18 (Ne.symm (Exa.neArv c16 c26 (w198 hw))))
  have c28 := (((P10_0.other R14 (Ne.symm (Exa.neArv c11 P10_0 (w198 hw)))).other R18 (Ne.symm (Exa.neArv c16 c26 (w198 hw)))).other R21 (Ne.symm (Exa.neArv c19 c27 (w198 hw))))
  have c29 := ((c15.other R18 (own_ne' z1.lt P6_0)).other R21 (own_ne' z1.lt P6_0))
  exact o_retA W22 hlk (v := (.ref r1_6)) hret rfl rfl (hb hy d47_68) (by decide) (by decide) ⟨r1_6, r2_6, (Nat.le_trans W5.keep.1 P6_0), c24, F21, c23, c28, c29, rfl⟩
theorem rm122 (l : Launch) {Z a0} (hw : HW Z a0) (a1 a2 : Addr) (z0 : ClassId) (x1 : Int32) (h0 : Heap) (O0 : Old Z Z.heap.size h0) (z1 : Fld Z h0 a1 s3 "intLen" "I" (.int 1)) (z2 : Exa Z h0 a1 s3) (z3 : Fld Z h0 a1 s3 "offset" "I" (.int 1)) (z4 : Fld Z h0 a1 s3 "value" "[I" (.ref a2)) (z5 : Arv Z h0 a2 z0 .int 2 [iZ, (.int x1)] iZ) (z6 : Z.heap.size ≤ a2) (z7 : Z.heap.size ≤ a1) :
    CtrN l Z mn43 jdk_2101_method_9_code 2 (some (.object s1)) [] (⟨4, 2, 7, 72⟩ : Room) #[(.ref a1), (.int 1)] h0 [a1, a2] (fun v h => ∃ r1 : Addr, ∃ r2 : Addr, ∃ r3 : ClassId, h0.size ≤ r1 ∧ h0.size ≤ r2 ∧ Fld Z h a1 s3 "intLen" "I" (.int 1) ∧ Fld Z h a1 s3 "offset" "I" iZ ∧ Fld Z h a1 s3 "value" "[I" (.ref r2) ∧ Arv Z h a2 z0 .int 2 [iZ, iZ] iZ ∧ Exa Z h r1 s1 ∧ Fld Z h r1 s1 "signum" "I" (.int 1) ∧ Fld Z h r1 s1 "mag" "[I" (.ref r2) ∧ Fld Z h r1 s1 s8 "I" iZ ∧ Arv Z h r2 r3 .int 1 [(.int x1)] iZ ∧ v = some (.ref r1)) := by
  refine CtrN.intro (L0 := #[vr a1, vi 1]) (plainFor_of_name pn7) O0 (fun _ => rfl) ?_
  intro p e s m below meth c T0 hy hml hret hlk hnm W0
  refine o_aloadN W0 1 (hb hy d46_0) rfl rfl rfl ?_
  refine o_getF W0 (w209 hw) Via.refl z1 4 (hb hy d46_1) rfl ?_
  intro T1 W1
  refine o_ifN W1 7 (hb hy d46_4) (XT.i0_eq_f (by decide)) rfl <| o_iloadN W1 8 (hb hy d46_7) rfl rfl <| o_ifY W1 15 (hb hy d46_8) (XT.i0_ne_t (by decide)) (by decide) rfl ?_
  refine o_new W1 (w248 hw) (w173 hw) (w169 hw) tri 18 (hb hy d46_15) rfl (cells' := 1) (slots' := 6) rfl rfl (by decide) (by decide) ?_
  intro b2 T2 h2 W2 E2 ge2 gz2 gb2 A2 D2
  have Fb2_signum : Fld Z h2 b2 s1 "signum" "I" iZ := D2 (Or.inr (w181 hw)) (ty := .int) (by decide)
  have Fb2_mag : Fld Z h2 b2 s1 "mag" "[I" .null := D2 (Or.inr (w184 hw)) (ty := (.array .int)) (by decide)
  have Fb2_bitLengthPlusOne : Fld Z h2 b2 s1 s8 "I" iZ := D2 (Or.inl (w265 hw)) (ty := .int) (by decide)
  refine o_dup W2 19 (hb hy d46_18) rfl rfl <| o_aloadN W2 20 (hb hy d46_19) rfl rfl rfl ?_
  have c3 := (z2.ext E2)
  have c4 := (z3.ext E2)
  have c5 := (z4.ext E2)
  have c6 := (z1.ext E2)
  have c7 := (z5.ext E2)
  refine o_privateC W2 (w249 hw) (w250 hw) (w252 hw) (w251 hw) (w253 hw) (by decide) c3 (w199 hw) (rm121 l hw a1 a2 z0 x1 h2 W2.old c4 c5 c6 c7 z6 c3 z7) 2 2 7 (by decide) (by rw [hml]; rfl) (lenOf pd32 rfl) [(.ref b2), (.ref b2)] rfl rfl 23 (hb hy d46_20) rfl rfl rfl (allS ⟨z6, (Or.inl (List.mem_of_getElem? (i := 1) rfl))⟩ (allS ⟨z7, m0⟩ all0)) tri ?_
  intro v8 T8 h8 lo8 W8 K8 q8
  obtain ⟨r1_8, r2_8, P8_0, P8_1, P8_2, P8_3, P8_4, P8_5, rfl⟩ := q8.2.2
  show Gl _ _ _ _ _ _ _ _ [(.ref r1_8), (.ref b2), (.ref b2)]
  refine o_iloadN W8 24 (hb hy d46_23) rfl rfl ?_
  have c9 := (Fb2_signum.keep K8 (ninS (own_ne' z5.lt ge2) (ninS (own_ne' z1.lt ge2) nin0)))
  have c10 := (Fb2_mag.keep K8 (ninS (own_ne' z5.lt ge2) (ninS (own_ne' z1.lt ge2) nin0)))
  have c11 := (Fb2_bitLengthPlusOne.keep K8 (ninS (own_ne' z5.lt ge2) (ninS (own_ne' z1.lt ge2) nin0)))
  have c12 := (A2.keep K8)
  refine o_specialC W8 rfl (w254 hw) (w255 hw) (w256 hw) (by decide) (w169 hw) (rm50 l hw b2 r1_8 r2_8 x1 h8 W8.old P8_5 c12 c9 gz2 c10 c11) 1 2 7 (by decide) (by rw [hml]; rfl) (lenOf pd33 rfl) [(.ref b2)] rfl rfl 27 (hb hy d46_24) rfl rfl rfl (allS ⟨gz2, (Or.inr gb2)⟩ all0) tri ?_
  intro v13 T13 h13 lo13 W13 K13 q13
  obtain ⟨P13_0, P13_1, P13_2, rfl⟩ := q13.2.2
  show Gl _ _ _ _ _ _ _ _ [(.ref b2)]
  have c14 := (P8_1.keep K13 (ninS (own_ne z1.lt ge2) nin0))
  have c15 := (P8_2.keep K13 (ninS (own_ne z1.lt ge2) nin0))
  have c16 := (P8_3.keep K13 (ninS (own_ne z1.lt ge2) nin0))
  have c17 := ((c3.keep K8).keep K13)
  have c18 := (P8_4.keep K13 (ninS (own_ne z5.lt ge2) nin0))
  have c19 := (c12.keep K13)
  have c20 := (P8_5.keep K13 (ninS (own_ne' A2.lt P8_0) nin0))
  exact o_retA W13 hlk (v := (.ref b2)) hret rfl rfl (hb hy d46_27) (by decide) (by decide) ⟨b2, r1_8, r2_8, gb2, (Nat.le_trans W2.keep.1 P8_0), c16, c14, c15, c18, c19, P13_0, P13_1, P13_2, c20, rfl⟩
theorem rm123 (l : Launch) {Z a0} (hw : HW Z a0) (gO88 gO89 gO90 : Addr) (z0 : ClassId) (a1 a2 : Addr) (z1 : ClassId) (x1 x2 : Int32) (h0 : Heap) (O0 : Old Z Z.heap.size h0) (z2 : Fld Z h0 a1 s1 "mag" "[I" (.ref a2)) (z3 : Arv Z h0 a2 z1 .int 2 [(.int x1), (.int x2)] iZ) (z4 : Fld Z Z.heap gO88 s1 "mag" "[I" (.ref gO89)) (VgO89 : Arv Z Z.heap gO89 z0 .int (1 : Int32) [(.int 1000000000)] iZ) (hc28 : (lcmpW ((x1.toInt64) &&& (4294967295 : Int64)) (((1000000000 : Int32).toInt64) &&& (4294967295 : Int64))) < (0 : Int32)) (hc29 : ¬ ((lcmpW ((((x1.toInt64) &&& (4294967295 : Int64)) <<< ((32 : Int32) &&& 0x3f).toInt64) ||| ((x2.toInt64) &&& (4294967295 : Int64))) (0 : Int64)) < (0 : Int32))) (hc30 : ¬ (((((((x1.toInt64) &&& (4294967295 : Int64)) <<< ((32 : Int32) &&& 0x3f).toInt64) ||| ((x2.toInt64) &&& (4294967295 : Int64))) / (((1000000000 : Int32).toInt64) &&& (4294967295 : Int64))).toInt32) = (0 : Int32))) (hc31 : (((((((x1.toInt64) &&& (4294967295 : Int64)) <<< ((32 : Int32) &&& 0x3f).toInt64) ||| ((x2.toInt64) &&& (4294967295 : Int64))) - ((((((((x1.toInt64) &&& (4294967295 : Int64)) <<< ((32 : Int32) &&& 0x3f).toInt64) ||| ((x2.toInt64) &&& (4294967295 : Int64))) / (((1000000000 : Int32).toInt64) &&& (4294967295 : Int64))).toInt32).toInt64) * (((1000000000 : Int32).toInt64) &&& (4294967295 : Int64)))).toInt32) % (1000000000 : Int32)) = (0 : Int32)) (z5 : Fld Z h0 a1 s1 "signum" "I" (.int 1)) (z6 : Fld Z Z.heap gO88 s1 "signum" "I" (.int 1)) (z7 : Sta Z Z.heap s1 "ZERO" s5 (.ref gO90)) (XgO90 : Exa Z Z.heap gO90 s1) :
    CtrN l Z mn44 jdk_2097_method_64_code 7 (some (.array (.object s1))) [] (⟨5, 10, 25, 87⟩ : Room) #[(.ref a1), (.ref gO88)] h0 [] (fun v h => ∃ r1 : Addr, ∃ r2 : Addr, ∃ r3 : Addr, ∃ r4 : ClassId, ∃ r5 : ClassId, h0.size ≤ r1 ∧ h0.size ≤ r2 ∧ h0.size ≤ r3 ∧ Arv Z h r1 r4 (.object s1) 2 [(.ref r2), (.ref gO90)] .null ∧ Ovr Z r4 s1 ∧ Exa Z h r2 s1 ∧ Fld Z h r2 s1 "signum" "I" (.int 1) ∧ Fld Z h r2 s1 "mag" "[I" (.ref r3) ∧ Fld Z h r2 s1 s8 "I" iZ ∧ Arv Z h r3 r5 .int 1 [(.int ((((((x1.toInt64) &&& (4294967295 : Int64)) <<< ((32 : Int32) &&& 0x3f).toInt64) ||| ((x2.toInt64) &&& (4294967295 : Int64))) / (((1000000000 : Int32).toInt64) &&& (4294967295 : Int64))).toInt32))] iZ ∧ v = some (.ref r1)) := by
  refine CtrN.intro (L0 := #[vr a1, vr gO88, un, un, un, un, un]) (plainFor_of_name pn6) O0 (fun _ => rfl) ?_
  intro p e s m below meth c T0 hy hml hret hlk hnm W0
  refine o_iconst W0 (v := 2) 1 (hb hy d38_0) rfl rfl ?_
  refine o_newR W0 (w172 hw) (w196 hw) tri (by decide) (cap := 2) (by decide) (by decide) 4 (hb hy d38_1) rfl (cells' := 1) (slots' := 2) rfl rfl (by decide) (by decide) (vs := [.null, .null]) rfl ?_
  intro b1 T1 h1 k1 W1 E1 ge1 gz1 gb1 V1 O1
  refine o_astoreN W1 (L' := #[vr a1, vr gO88, vr b1, un, un, un, un]) 5 (hb hy d38_4) rfl rfl rfl ?_
  refine o_new W1 (w197 hw) (w198 hw) (w199 hw) tri 8 (hb hy d38_5) rfl (cells' := 2) (slots' := 5) rfl rfl (by decide) (by decide) ?_
  intro b2 T2 h2 W2 E2 ge2 gz2 gb2 A2 D2
  have Fb2_offset : Fld Z h2 b2 s3 "offset" "I" iZ := D2 (Or.inl (w206 hw)) (ty := .int) (by decide)
  have Fb2_value : Fld Z h2 b2 s3 "value" "[I" .null := D2 (Or.inl (w208 hw)) (ty := (.array .int)) (by decide)
  have Fb2_intLen : Fld Z h2 b2 s3 "intLen" "I" iZ := D2 (Or.inl (w210 hw)) (ty := .int) (by decide)
  refine o_dup W2 9 (hb hy d38_8) rfl rfl ?_
  refine o_specialC W2 rfl (w200 hw) (w201 hw) (w203 hw) (by decide) (w199 hw) (rm41 l hw b2 h2 W2.old A2 Fb2_offset gz2 Fb2_value Fb2_intLen) 1 3 6 (by decide) (by rw [hml]; rfl) (lenOf pd0 rfl) [(.ref b2)] rfl rfl 12 (hb hy d38_9) rfl rfl rfl (allS ⟨gz2, (Or.inr gb2)⟩ all0) tri ?_
  intro v3 T3 h3 lo3 W3 K3 q3
  obtain ⟨r1_3, r2_3, P3_0, P3_1, P3_2, P3_3, P3_4, rfl⟩ := q3.2.2
  show Gl _ _ _ _ _ _ _ _ [(.ref b2)]
  refine o_astoreN W3 (L' := #[vr a1, vr gO88, vr b1, vr b2, un, un, un]) 13 (hb hy d38_12) rfl rfl rfl ?_
  refine o_new W3 (w197 hw) (w198 hw) (w199 hw) tri 16 (hb hy d38_13) rfl (cells' := 4) (slots' := 9) rfl rfl (by decide) (by decide) ?_
  intro b4 T4 h4 W4 E4 ge4 gz4 gb4 A4 D4
  have Fb4_offset : Fld Z h4 b4 s3 "offset" "I" iZ := D4 (Or.inl (w206 hw)) (ty := .int) (by decide)
  have Fb4_value : Fld Z h4 b4 s3 "value" "[I" .null := D4 (Or.inl (w208 hw)) (ty := (.array .int)) (by decide)
  have Fb4_intLen : Fld Z h4 b4 s3 "intLen" "I" iZ := D4 (Or.inl (w210 hw)) (ty := .int) (by decide)
  refine o_dup W4 17 (hb hy d38_16) rfl rfl <| o_aloadN W4 18 (hb hy d38_17) rfl rfl rfl ?_
  have c5 := (z2.ext E1)
  have c6 := ((((z2.ext E1).ext E2).keep K3 (ninS (own_ne c5.lt ge2) nin0)).ext E4)
  refine o_getF W4 (w183 hw) Via.refl c6 21 (hb hy d38_18) rfl ?_
  intro T7 W7
  have c8 := (z3.ext E1)
  have c9 := ((((z3.ext E1).ext E2).keep K3 (ninS (own_ne c8.lt ge2) nin0)).ext E4)
  refine o_specialC W7 rfl (w211 hw) (w212 hw) (w213 hw) (by decide) (w199 hw) (rm109 l hw b4 a2 z1 x1 x2 h4 W7.old A4 Fb4_offset gz4 Fb4_value c9 Fb4_intLen) 1 4 9 (by decide) (by rw [hml]; rfl) (lenOf pd27 rfl) [(.ref b4)] rfl rfl 24 (hb hy d38_21) rfl rfl rfl (allS ⟨gz4, (Or.inr gb4)⟩ all0) tri ?_
  intro v10 T10 h10 lo10 W10 K10 q10
  obtain ⟨P10_0, P10_1, P10_2, rfl⟩ := q10.2.2
  show Gl _ _ _ _ _ _ _ _ [(.ref b4)]
  refine o_astore W10 (L' := #[vr a1, vr gO88, vr b1, vr b2, vr b4, un, un]) 26 (hb hy d38_24) rfl rfl rfl ?_
  refine o_new W10 (w197 hw) (w198 hw) (w199 hw) tri 29 (hb hy d38_26) rfl (cells' := 5) (slots' := 12) rfl rfl (by decide) (by decide) ?_
  intro b11 T11 h11 W11 E11 ge11 gz11 gb11 A11 D11
  have Fb11_offset : Fld Z h11 b11 s3 "offset" "I" iZ := D11 (Or.inl (w206 hw)) (ty := .int) (by decide)
  have Fb11_value : Fld Z h11 b11 s3 "value" "[I" .null := D11 (Or.inl (w208 hw)) (ty := (.array .int)) (by decide)
  have Fb11_intLen : Fld Z h11 b11 s3 "intLen" "I" iZ := D11 (Or.inl (w210 hw)) (ty := .int) (by decide)
  refine o_dup W11 30 (hb hy d38_29) rfl rfl <| o_aloadN W11 31 (hb hy d38_30) rfl rfl rfl ?_
  refine o_getF W11 (w183 hw) Via.refl (z4.ext W11.ox) 34 (hb hy d38_31) rfl ?_
  intro T12 W12
  refine o_specialC W12 rfl (w211 hw) (w212 hw) (w213 hw) (by decide) (w199 hw) (rm43 l hw gO89 z0 b11 h11 W12.old A11 Fb11_offset gz11 Fb11_value VgO89 Fb11_intLen) 1 5 12 (by decide) (by rw [hml]; rfl) (lenOf pd27 rfl) [(.ref b11)] rfl rfl 37 (hb hy d38_34) rfl rfl rfl (allS ⟨gz11, (Or.inr gb11)⟩ all0) tri ?_
  intro v13 T13 h13 lo13 W13 K13 q13
  obtain ⟨P13_0, P13_1, P13_2, rfl⟩ := q13.2.2
  show Gl _ _ _ _ _ _ _ _ [(.ref b11)]
  refine o_astore W13 (L' := #[vr a1, vr gO88, vr b1, vr b2, vr b4, vr b11, un]) 39 (hb hy d38_37) rfl rfl rfl <| o_aload W13 41 (hb hy d38_39) rfl rfl rfl <| o_aload W13 43 (hb hy d38_41) rfl rfl rfl <| o_aloadN W13 44 (hb hy d38_43) rfl rfl rfl ?_
  have c14 := (A4.keep K10)
  have c15 := ((P10_2.ext E11).keep K13 (ninS (own_ne c14.lt ge11) nin0))
  have c16 := (A2.keep K3)
  have c17 := ((c16.ext E4).keep K10)
  have c18 := ((((P3_3.ext E4).keep K10 (ninS (own_ne c16.lt ge4) nin0)).ext E11).keep K13 (ninS (own_ne c17.lt ge11) nin0))
  have c19 := ((((P3_1.ext E4).keep K10 (ninS (own_ne c16.lt ge4) nin0)).ext E11).keep K13 (ninS (own_ne c17.lt ge11) nin0))
  have c20 := ((((P3_2.ext E4).keep K10 (ninS (own_ne c16.lt ge4) nin0)).ext E11).keep K13 (ninS (own_ne c17.lt ge11) nin0))
  have c21 := ((P3_4.ext E4).keep K10 (ninS (own_ne P3_4.lt ge4) nin0))
  have c22 := ((((P3_4.ext E4).keep K10 (ninS (own_ne P3_4.lt ge4) nin0)).ext E11).keep K13 (ninS (own_ne c21.lt ge11) nin0))
  have c23 := ((P10_1.ext E11).keep K13 (ninS (own_ne c14.lt ge11) nin0))
  have c24 := ((P10_0.ext E11).keep K13 (ninS (own_ne c14.lt ge11) nin0))
  have c25 := ((c8.ext E2).keep K3 (ninS (own_ne c8.lt ge2) nin0))
  have c26 := (c9.keep K10 (ninS (own_ne c25.lt ge4) nin0))
  have c27 := (((c9.keep K10 (ninS (own_ne c25.lt ge4) nin0)).ext E11).keep K13 (ninS (own_ne c26.lt ge11) nin0))
  have c32 := ((c14.ext E11).keep K13)
  have c33 := ((c17.ext E11).keep K13)
  have c34 := (A11.keep K13)
  have c35 := (c8.ext E2)
  refine o_virtualC W13 (w214 hw) (w215 hw) (o_nf W13 rfl (w217 hw)) (w217 hw) (w216 hw) (by decide) c32 (w218 hw) (w199 hw) (rm115 l hw gO89 z0 b4 b11 b2 r1_3 r2_3 a2 z1 x1 x2 h13 W13.old c32 P13_2 c15 c33 c18 c19 c20 c22 c34 P13_1 P13_0 VgO89 c23 c24 c27 hc28 hc29 hc30 hc31 gz2 (Nat.le_trans W2.zs P3_0) (own_ne' c17.lt ge11) (own_ne' c16.lt ge4) (own_ne' c35.lt P3_0)) 0 8 18 (by decide) (by rw [hml]; rfl) (lenOf pd31 rfl) [] rfl rfl 47 (hb hy d38_44) rfl rfl rfl (allS ⟨gz2, (Or.inr gb2)⟩ (allS ⟨(Nat.le_trans W2.zs P3_0), (Or.inr (Nat.le_trans W2.keep.1 P3_0))⟩ all0)) tri ?_
  intro v36 T36 h36 lo36 W36 K36 q36
  obtain ⟨r1_36, r2_36, r3_36, r4_36, r5_36, P36_0, P36_1, P36_2, P36_3, P36_4, P36_5, P36_6, P36_7, P36_8, P36_9, P36_10, P36_11, P36_12, rfl⟩ := q36.2.2
  show Gl _ _ _ _ _ _ _ _ [(.ref r1_36)]
  refine o_astore W36 (L' := #[vr a1, vr gO88, vr b1, vr b2, vr b4, vr b11, vr r1_36]) 49 (hb hy d38_47) rfl rfl rfl <| o_aloadN W36 50 (hb hy d38_49) rfl rfl rfl <| o_iconst W36 (v := 0) 51 (hb hy d38_50) rfl rfl <| o_aloadN W36 52 (hb hy d38_51) rfl rfl rfl <| o_aloadN W36 53 (hb hy d38_52) rfl rfl rfl ?_
  have c37 := ((c5.ext E2).keep K3 (ninS (own_ne c5.lt ge2) nin0))
  have c38 := (c6.keep K10 (ninS (own_ne c37.lt ge4) nin0))
  have c39 := (c5.ext E2)
  have c40 := ((((((((z5.ext E1).ext E2).keep K3 (ninS (own_ne c5.lt ge2) nin0)).ext E4).keep K10 (ninS (own_ne c37.lt ge4) nin0)).ext E11).keep K13 (ninS (own_ne c38.lt ge11) nin0)).keep K36 (ninS (own_ne c5.lt ge2) (ninS (own_ne c39.lt P3_0) nin0)))
  refine o_getF W36 (w180 hw) Via.refl c40 56 (hb hy d38_53) rfl ?_
  intro T41 W41
  refine o_aloadN W41 57 (hb hy d38_56) rfl rfl rfl ?_
  refine o_getF W41 (w180 hw) Via.refl (z6.ext W41.ox) 60 (hb hy d38_57) rfl ?_
  intro T42 W42
  refine o_icmpN W42 63 (hb hy d38_60) (XT.ii_ne_f (by decide)) rfl <| o_iconst W42 (v := 1) 64 (hb hy d38_63) rfl rfl <| o_goto W42 68 (hb hy d38_64) (by decide) rfl ?_
  have c43 := (c33.keep K36)
  refine o_virtualC W42 (w243 hw) (w244 hw) (o_nf W42 rfl (w246 hw)) (w246 hw) (w245 hw) (by decide) c43 (w247 hw) (w199 hw) (rm122 l hw b2 r2_36 r4_36 ((((((x1.toInt64) &&& (4294967295 : Int64)) <<< ((32 : Int32) &&& 0x3f).toInt64) ||| ((x2.toInt64) &&& (4294967295 : Int64))) / (((1000000000 : Int32).toInt64) &&& (4294967295 : Int64))).toInt32) h36 W42.old P36_3 c43 P36_4 P36_5 P36_11 (Nat.le_trans W13.zs P36_1) gz2) 2 10 25 (by decide) (by rw [hml]; rfl) (lenOf pd34 rfl) [iZ, (.ref b1)] rfl rfl 71 (hb hy d38_68) rfl rfl rfl (allS ⟨gz2, (Or.inr gb2)⟩ (allS ⟨(Nat.le_trans W13.zs P36_1), (Or.inr (Nat.le_trans W13.keep.1 P36_1))⟩ all0)) tri ?_
  intro v44 T44 h44 lo44 W44 K44 q44
  obtain ⟨r1_44, r2_44, r3_44, P44_0, P44_1, P44_2, P44_3, P44_4, P44_5, P44_6, P44_7, P44_8, P44_9, P44_10, rfl⟩ := q44.2.2
  show Gl _ _ _ _ _ _ _ _ [(.ref r1_44), iZ, (.ref b1)]
  have c45 := ((V1.ext E2).keep K3 (ninS (own_ne V1.lt ge2) nin0))
  have c46 := ((c45.ext E4).keep K10 (ninS (own_ne c45.lt ge4) nin0))
  have c47 := (V1.ext E2)
  have c48 := ((c46.ext E11).keep K13 (ninS (own_ne c46.lt ge11) nin0))
  have c49 := ((((((((V1.ext E2).keep K3 (ninS (own_ne V1.lt ge2) nin0)).ext E4).keep K10 (ninS (own_ne c45.lt ge4) nin0)).ext E11).keep K13 (ninS (own_ne c46.lt ge11) nin0)).keep K36 (ninS (own_ne V1.lt ge2) (ninS (own_ne c47.lt P3_0) nin0))).keep K44 (ninS (own_ne V1.lt ge2) (ninS (own_ne c48.lt P36_1) nin0)))
  refine o_stR W44 c49 (i := 0) rfl rfl (own_stoV c49 O1 (Ins.self P44_6)) (by decide) (by decide) (by decide) (Nat.lt_of_sub_eq_succ rfl) (vs' := [(.ref r1_44), .null]) rfl gz1 (Or.inr gb1) tri 72 (hb hy d38_71) rfl ?_
  intro T50 h50 lo50 W50 R50 V50
  refine o_aloadN W50 73 (hb hy d38_72) rfl rfl rfl <| o_iconst W50 (v := 1) 74 (hb hy d38_73) rfl rfl <| o_aload W50 76 (hb hy d38_74) rfl rfl rfl <| o_aloadN W50 77 (hb hy d38_76) rfl rfl rfl ?_
  have c51 := ((c38.ext E11).keep K13 (ninS (own_ne c38.lt ge11) nin0))
  have c52 := ((c40.keep K44 (ninS (own_ne c5.lt ge2) (ninS (own_ne c51.lt P36_1) nin0))).other R50 (Or.inl (own_ne z2.lt ge1)))
  refine o_getF W50 (w180 hw) Via.refl c52 80 (hb hy d38_77) rfl ?_
  intro T53 W53
  have c54 := ((P36_7.keep K44).wr R50)
  have c55 := ((P36_10.keep K44 (ninS (own_ne' c33.lt P36_0) (ninS (Exa.neArv P36_7 P36_11 (w198 hw)) nin0))).other R50 (Or.inl (own_ne' c48.lt P36_0)))
  refine o_virtualC W53 (w243 hw) (w244 hw) (o_nf W53 rfl (w246 hw)) (w246 hw) (w245 hw) (by decide) c54 (w247 hw) (w199 hw) (rm52 l hw gO90 r1_36 h50 W53.old c55 z7) 2 10 25 (by decide) (by rw [hml]; rfl) (lenOf pd34 rfl) [(.int 1), (.ref b1)] rfl rfl 83 (hb hy d38_80) rfl rfl rfl all0 tri ?_
  intro v56 T56 h56 lo56 W56 K56 q56
  obtain rfl := q56.2.2
  show Gl _ _ _ _ _ _ _ _ [(.ref gO90), (.int 1), (.ref b1)]
  have c57 := (V50.keep K56 nin0)
  refine o_stR W56 c57 (i := 1) rfl rfl (own_stoV c57 O1 (Ins.self (XgO90.ext W56.ox))) (by decide) (by decide) (by decide) (Nat.lt_of_sub_eq_succ rfl) (vs' := [(.ref r1_44), (.ref gO90)]) rfl gz1 (Or.inr gb1) tri 84 (hb hy d38_83) rfl ?_
  intro T58 h58 lo58 W58 R58 V58
  refine o_aloadN W58 85 (hb hy d38_84) rfl rfl rfl ?_
  have c59 := (((P44_6.wr R50).keep K56).wr R58)
  have c60 := (c48.keep K36 (ninS (own_ne V1.lt ge2) (ninS (own_ne c47.lt P3_0) nin0)))
  have c61 := (((P44_7.other R50 (Or.inl (own_ne' c60.lt P44_0))).keep K56 nin0).other R58 (Or.inl (own_ne' c60.lt P44_0)))
  have c62 := (((P44_8.other R50 (Or.inl (own_ne' c60.lt P44_0))).keep K56 nin0).other R58 (Or.inl (own_ne' c60.lt P44_0)))
  have c63 := (((P44_9.other R50 (Or.inl (own_ne' c60.lt P44_0))).keep K56 nin0).other R58 (Or.inl (own_ne' c60.lt P44_0)))
  have c64 := (((P44_10.other R50 (own_ne' c60.lt P44_1)).keep K56 nin0).other R58 (own_ne' c60.lt P44_1))
  exact o_retA W58 hlk (v := (.ref b1)) hret rfl rfl (hb hy d38_85) (by decide) (by decide) ⟨b1, r1_44, r2_44, k1, r3_44, gb1, (Nat.le_trans W42.keep.1 P44_0), (Nat.le_trans W42.keep.1 P44_1), V58, O1, c59, c61, c62, c63, c64, rfl⟩
theorem rm124 (l : Launch) {Z a0} (hw : HW Z a0) (gO88 gO89 gO90 : Addr) (z0 : ClassId) (a1 a2 : Addr) (z1 : ClassId) (x1 x2 : Int32) (h0 : Heap) (O0 : Old Z Z.heap.size h0) (z2 : Fld Z Z.heap gO88 s1 "mag" "[I" (.ref gO89)) (VgO89 : Arv Z Z.heap gO89 z0 .int (1 : Int32) [(.int 1000000000)] iZ) (z3 : Exa Z h0 a1 s1) (z4 : Fld Z h0 a1 s1 "mag" "[I" (.ref a2)) (z5 : Arv Z h0 a2 z1 .int 2 [(.int x1), (.int x2)] iZ) (hc2 : (lcmpW ((x1.toInt64) &&& (4294967295 : Int64)) (((1000000000 : Int32).toInt64) &&& (4294967295 : Int64))) < (0 : Int32)) (hc3 : ¬ ((lcmpW ((((x1.toInt64) &&& (4294967295 : Int64)) <<< ((32 : Int32) &&& 0x3f).toInt64) ||| ((x2.toInt64) &&& (4294967295 : Int64))) (0 : Int64)) < (0 : Int32))) (hc4 : ¬ (((((((x1.toInt64) &&& (4294967295 : Int64)) <<< ((32 : Int32) &&& 0x3f).toInt64) ||| ((x2.toInt64) &&& (4294967295 : Int64))) / (((1000000000 : Int32).toInt64) &&& (4294967295 : Int64))).toInt32) = (0 : Int32))) (hc5 : (((((((x1.toInt64) &&& (4294967295 : Int64)) <<< ((32 : Int32) &&& 0x3f).toInt64) ||| ((x2.toInt64) &&& (4294967295 : Int64))) - ((((((((x1.toInt64) &&& (4294967295 : Int64)) <<< ((32 : Int32) &&& 0x3f).toInt64) ||| ((x2.toInt64) &&& (4294967295 : Int64))) / (((1000000000 : Int32).toInt64) &&& (4294967295 : Int64))).toInt32).toInt64) * (((1000000000 : Int32).toInt64) &&& (4294967295 : Int64)))).toInt32) % (1000000000 : Int32)) = (0 : Int32)) (z6 : Fld Z h0 a1 s1 "signum" "I" (.int 1)) (z7 : Fld Z Z.heap gO88 s1 "signum" "I" (.int 1)) (z8 : Sta Z Z.heap s1 "ZERO" s5 (.ref gO90)) (XgO90 : Exa Z Z.heap gO90 s1) :
    CtrN l Z mn45 jdk_2097_method_63_code 2 (some (.array (.object s1))) [] (⟨6, 10, 25, 105⟩ : Room) #[(.ref a1), (.ref gO88)] h0 [] (fun v h => ∃ r1 : Addr, ∃ r2 : Addr, ∃ r3 : Addr, ∃ r4 : ClassId, ∃ r5 : ClassId, h0.size ≤ r1 ∧ h0.size ≤ r2 ∧ h0.size ≤ r3 ∧ Arv Z h r1 r4 (.object s1) 2 [(.ref r2), (.ref gO90)] .null ∧ Ovr Z r4 s1 ∧ Exa Z h r2 s1 ∧ Fld Z h r2 s1 "signum" "I" (.int 1) ∧ Fld Z h r2 s1 "mag" "[I" (.ref r3) ∧ Fld Z h r2 s1 s8 "I" iZ ∧ Arv Z h r3 r5 .int 1 [(.int ((((((x1.toInt64) &&& (4294967295 : Int64)) <<< ((32 : Int32) &&& 0x3f).toInt64) ||| ((x2.toInt64) &&& (4294967295 : Int64))) / (((1000000000 : Int32).toInt64) &&& (4294967295 : Int64))).toInt32))] iZ ∧ v = some (.ref r1)) := by
  refine CtrN.intro (L0 := #[vr a1, vr gO88]) (plainFor_of_name pn6) O0 (fun _ => rfl) ?_
  intro p e s m below meth c T0 hy hml hret hlk hnm W0
  refine o_aloadN W0 1 (hb hy d37_0) rfl rfl rfl ?_
  refine o_getF W0 (w183 hw) Via.refl (z2.ext W0.ox) 4 (hb hy d37_1) rfl ?_
  intro T1 W1
  refine o_len W1 (VgO89.ext W1.ox) 5 (hb hy d37_4) rfl <| o_bipush W1 (v := 80) 7 (hb hy d37_5) (by decide) rfl <| o_icmpY W1 26 (hb hy d37_7) (XT.ii_lt_t (by decide)) (by decide) rfl <| o_aloadN W1 27 (hb hy d37_26) rfl rfl rfl <| o_aloadN W1 28 (hb hy d37_27) rfl rfl rfl ?_
  refine o_privateC W1 (w191 hw) (w192 hw) (w194 hw) (w193 hw) (w195 hw) (by decide) z3 (w169 hw) (rm123 l hw gO88 gO89 gO90 z0 a1 a2 z1 x1 x2 h0 W1.old z4 z5 z2 VgO89 hc2 hc3 hc4 hc5 z6 z7 z8 XgO90) 0 10 25 (by decide) (by rw [hml]; rfl) (lenOf pd35 rfl) [] rfl rfl 31 (hb hy d37_28) rfl rfl rfl all0 tri ?_
  intro v6 T6 h6 lo6 W6 K6 q6
  obtain ⟨r1_6, r2_6, r3_6, r4_6, r5_6, P6_0, P6_1, P6_2, P6_3, P6_4, P6_5, P6_6, P6_7, P6_8, P6_9, rfl⟩ := q6.2.2
  show Gl _ _ _ _ _ _ _ _ [(.ref r1_6)]
  exact o_retA W6 hlk (v := (.ref r1_6)) hret rfl rfl (hb hy d37_31) (by decide) (by decide) ⟨r1_6, r2_6, r3_6, r4_6, r5_6, (Nat.le_trans W1.keep.1 P6_0), (Nat.le_trans W1.keep.1 P6_1), (Nat.le_trans W1.keep.1 P6_2), P6_3, P6_4, P6_5, P6_6, P6_7, P6_8, P6_9, rfl⟩
theorem rm125 (l : Launch) {Z a0} (hw : HW Z a0) (gO88 gO89 gO90 gO91 : Addr) (z0 z1 : ClassId) (a1 : Addr) (y1 : Int64) (h0 : Heap) (O0 : Old Z Z.heap.size h0) (z2 : Exa Z h0 a1 s0) (z3 : Fld Z h0 a1 s0 "scale" "I" (.int 9)) (z4 : Fld Z h0 a1 s0 "intVal" s5 .null) (z5 : Fld Z h0 a1 s0 s4 "J" (.long y1)) (hc2 : ¬ ((lcmpW y1 (0 : Int64)) = (0 : Int32))) (hc3 : (0 : Int32) < (lcmpW y1 (0 : Int64))) (hc4 : (0 : Int32) < (lcmpW y1 (16 : Int64))) (hc5 : ¬ ((lcmpW y1 (0 : Int64)) < (0 : Int32))) (hc6 : ¬ ((((y1.toUInt64 >>> ((32 : Int32) &&& 0x3f).toInt64.toUInt64).toInt64).toInt32) = (0 : Int32))) (z6 : Sta Z Z.heap s2 s15 s5 (.ref gO88)) (z7 : Fld Z Z.heap gO88 s1 "mag" "[I" (.ref gO89)) (VgO89 : Arv Z Z.heap gO89 z0 .int (1 : Int32) [(.int 1000000000)] iZ) (hc9 : (lcmpW (((((y1.toUInt64 >>> ((32 : Int32) &&& 0x3f).toInt64.toUInt64).toInt64).toInt32).toInt64) &&& (4294967295 : Int64)) (((1000000000 : Int32).toInt64) &&& (4294967295 : Int64))) < (0 : Int32)) (hc10 : ¬ ((lcmpW (((((((y1.toUInt64 >>> ((32 : Int32) &&& 0x3f).toInt64.toUInt64).toInt64).toInt32).toInt64) &&& (4294967295 : Int64)) <<< ((32 : Int32) &&& 0x3f).toInt64) ||| (((y1.toInt32).toInt64) &&& (4294967295 : Int64))) (0 : Int64)) < (0 : Int32))) (hc11 : ¬ ((((((((((y1.toUInt64 >>> ((32 : Int32) &&& 0x3f).toInt64.toUInt64).toInt64).toInt32).toInt64) &&& (4294967295 : Int64)) <<< ((32 : Int32) &&& 0x3f).toInt64) ||| (((y1.toInt32).toInt64) &&& (4294967295 : Int64))) / (((1000000000 : Int32).toInt64) &&& (4294967295 : Int64))).toInt32) = (0 : Int32))) (hc12 : ((((((((((y1.toUInt64 >>> ((32 : Int32) &&& 0x3f).toInt64.toUInt64).toInt64).toInt32).toInt64) &&& (4294967295 : Int64)) <<< ((32 : Int32) &&& 0x3f).toInt64) ||| (((y1.toInt32).toInt64) &&& (4294967295 : Int64))) - (((((((((((y1.toUInt64 >>> ((32 : Int32) &&& 0x3f).toInt64.toUInt64).toInt64).toInt32).toInt64) &&& (4294967295 : Int64)) <<< ((32 : Int32) &&& 0x3f).toInt64) ||| (((y1.toInt32).toInt64) &&& (4294967295 : Int64))) / (((1000000000 : Int32).toInt64) &&& (4294967295 : Int64))).toInt32).toInt64) * (((1000000000 : Int32).toInt64) &&& (4294967295 : Int64)))).toInt32) % (1000000000 : Int32)) = (0 : Int32)) (z8 : Fld Z Z.heap gO88 s1 "signum" "I" (.int 1)) (z9 : Sta Z Z.heap s1 "ZERO" s5 (.ref gO90)) (XgO90 : Exa Z Z.heap gO90 s1) (hc14 : (0 : Int32) < (((((((((y1.toUInt64 >>> ((32 : Int32) &&& 0x3f).toInt64.toUInt64).toInt64).toInt32).toInt64) &&& (4294967295 : Int64)) <<< ((32 : Int32) &&& 0x3f).toInt64) ||| (((y1.toInt32).toInt64) &&& (4294967295 : Int64))) / (((1000000000 : Int32).toInt64) &&& (4294967295 : Int64))).toInt32)) (hc15 : (((((((((y1.toUInt64 >>> ((32 : Int32) &&& 0x3f).toInt64.toUInt64).toInt64).toInt32).toInt64) &&& (4294967295 : Int64)) <<< ((32 : Int32) &&& 0x3f).toInt64) ||| (((y1.toInt32).toInt64) &&& (4294967295 : Int64))) / (((1000000000 : Int32).toInt64) &&& (4294967295 : Int64))).toInt32) < (65536 : Int32)) (hc16 : (((((((((y1.toUInt64 >>> ((32 : Int32) &&& 0x3f).toInt64.toUInt64).toInt64).toInt32).toInt64) &&& (4294967295 : Int64)) <<< ((32 : Int32) &&& 0x3f).toInt64) ||| (((y1.toInt32).toInt64) &&& (4294967295 : Int64))) / (((1000000000 : Int32).toInt64) &&& (4294967295 : Int64))).toInt32) < (256 : Int32)) (hc17 : (((((((((y1.toUInt64 >>> ((32 : Int32) &&& 0x3f).toInt64.toUInt64).toInt64).toInt32).toInt64) &&& (4294967295 : Int64)) <<< ((32 : Int32) &&& 0x3f).toInt64) ||| (((y1.toInt32).toInt64) &&& (4294967295 : Int64))) / (((1000000000 : Int32).toInt64) &&& (4294967295 : Int64))).toInt32) < (16 : Int32)) (hc18 : ¬ ((((((((((y1.toUInt64 >>> ((32 : Int32) &&& 0x3f).toInt64.toUInt64).toInt64).toInt32).toInt64) &&& (4294967295 : Int64)) <<< ((32 : Int32) &&& 0x3f).toInt64) ||| (((y1.toInt32).toInt64) &&& (4294967295 : Int64))) / (((1000000000 : Int32).toInt64) &&& (4294967295 : Int64))).toInt32) < (4 : Int32))) (hc20 : ¬ ((63 : Int32) < ((0 : Int32) + ((32 : Int32) - ((29 : Int32) - (((((((((((((y1.toUInt64 >>> ((32 : Int32) &&& 0x3f).toInt64.toUInt64).toInt64).toInt32).toInt64) &&& (4294967295 : Int64)) <<< ((32 : Int32) &&& 0x3f).toInt64) ||| (((y1.toInt32).toInt64) &&& (4294967295 : Int64))) / (((1000000000 : Int32).toInt64) &&& (4294967295 : Int64))).toInt32).toUInt32 >>> ((2 : Int32) &&& 31).toUInt32).toInt32).toUInt32 >>> ((1 : Int32) &&& 31).toUInt32).toInt32)))))) (z10 : Fld Z Z.heap gO90 s1 "mag" "[I" (.ref gO91)) (VgO91 : Arv Z Z.heap gO91 z1 .int (0 : Int32) [] iZ) (z11 : Fld Z Z.heap gO90 s1 "signum" "I" iZ) (hc27 : ¬ ((lcmpW ((((0 : Int64) + (((((((((((y1.toUInt64 >>> ((32 : Int32) &&& 0x3f).toInt64.toUInt64).toInt64).toInt32).toInt64) &&& (4294967295 : Int64)) <<< ((32 : Int32) &&& 0x3f).toInt64) ||| (((y1.toInt32).toInt64) &&& (4294967295 : Int64))) / (((1000000000 : Int32).toInt64) &&& (4294967295 : Int64))).toInt32).toInt64) &&& (4294967295 : Int64))) ^^^ (((0 : Int64) + (((((((((((y1.toUInt64 >>> ((32 : Int32) &&& 0x3f).toInt64.toUInt64).toInt64).toInt32).toInt64) &&& (4294967295 : Int64)) <<< ((32 : Int32) &&& 0x3f).toInt64) ||| (((y1.toInt32).toInt64) &&& (4294967295 : Int64))) / (((1000000000 : Int32).toInt64) &&& (4294967295 : Int64))).toInt32).toInt64) &&& (4294967295 : Int64))) + (0 : Int64))) &&& ((0 : Int64) ^^^ (((0 : Int64) + (((((((((((y1.toUInt64 >>> ((32 : Int32) &&& 0x3f).toInt64.toUInt64).toInt64).toInt32).toInt64) &&& (4294967295 : Int64)) <<< ((32 : Int32) &&& 0x3f).toInt64) ||| (((y1.toInt32).toInt64) &&& (4294967295 : Int64))) / (((1000000000 : Int32).toInt64) &&& (4294967295 : Int64))).toInt32).toInt64) &&& (4294967295 : Int64))) + (0 : Int64)))) (0 : Int64)) < (0 : Int32))) (hc28 : ¬ ((lcmpW ((((0 : Int64) + (((((((((((y1.toUInt64 >>> ((32 : Int32) &&& 0x3f).toInt64.toUInt64).toInt64).toInt32).toInt64) &&& (4294967295 : Int64)) <<< ((32 : Int32) &&& 0x3f).toInt64) ||| (((y1.toInt32).toInt64) &&& (4294967295 : Int64))) / (((1000000000 : Int32).toInt64) &&& (4294967295 : Int64))).toInt32).toInt64) &&& (4294967295 : Int64))) + (0 : Int64)) ||| (0 : Int64)) (0 : Int64)) = (0 : Int32))) :
    CtrN l Z mn59 jdk_2316_method_48_code 3 (some (.object s2)) [] (⟨7, 14, 40, 118⟩ : Room) #[(.ref a1)] h0 [] (fun v h => ∃ r1 : Addr, h0.size ≤ r1 ∧ Exa Z h r1 s2 ∧ Fld Z h r1 s2 "seconds" "J" (.long (((0 : Int64) + (((((((((((y1.toUInt64 >>> ((32 : Int32) &&& 0x3f).toInt64.toUInt64).toInt64).toInt32).toInt64) &&& (4294967295 : Int64)) <<< ((32 : Int32) &&& 0x3f).toInt64) ||| (((y1.toInt32).toInt64) &&& (4294967295 : Int64))) / (((1000000000 : Int32).toInt64) &&& (4294967295 : Int64))).toInt32).toInt64) &&& (4294967295 : Int64))) + (0 : Int64))) ∧ Fld Z h r1 s2 "nanos" "I" iZ ∧ v = some (.ref r1)) := by
  refine CtrN.intro (L0 := #[vr a1, un, un]) (plainFor_of_name pn1) O0 (fun _ => rfl) ?_
  intro p e s m below meth c T0 hy hml hret hlk hnm W0
  refine o_aloadN W0 1 (hb hy d30_0) rfl rfl rfl <| o_bipush W0 (v := 9) 3 (hb hy d30_1) (by decide) rfl ?_
  refine o_virtualC W0 (w147 hw) (w148 hw) (o_nf W0 rfl (w150 hw)) (w150 hw) (w149 hw) (by decide) z2 (w151 hw) (w70 hw) (rm35 l hw a1 y1 h0 W0.old z3 z2 z4 z5) 0 1 5 (by decide) (by rw [hml]; rfl) (lenOf pd12 rfl) [] rfl rfl 6 (hb hy d30_3) rfl rfl rfl all0 tri ?_
  intro v1 T1 h1 lo1 W1 K1 q1
  obtain ⟨r1_1, P1_0, P1_1, P1_2, P1_3, P1_4, P1_5, rfl⟩ := q1.2.2
  show Gl _ _ _ _ _ _ _ _ [(.ref r1_1)]
  refine o_virtualC W1 (w152 hw) (w153 hw) (o_nf W1 rfl (w155 hw)) (w155 hw) (w154 hw) (by decide) P1_1 (w156 hw) (w70 hw) (rm108 l hw r1_1 y1 h1 W1.old P1_1 P1_3 P1_5 P1_2 hc2 hc3 hc4 hc5 hc6) 0 3 13 (by decide) (by rw [hml]; rfl) (lenOf pd26 rfl) [] rfl rfl 9 (hb hy d30_6) rfl rfl rfl all0 tri ?_
  intro v7 T7 h7 lo7 W7 K7 q7
  obtain ⟨r1_7, r2_7, r3_7, P7_0, P7_1, P7_2, P7_3, P7_4, P7_5, P7_6, rfl⟩ := q7.2.2
  show Gl _ _ _ _ _ _ _ _ [(.ref r1_7)]
  refine o_astoreN W7 (L' := #[vr a1, vr r1_7, un]) 10 (hb hy d30_9) rfl rfl rfl <| o_aloadN W7 11 (hb hy d30_10) rfl rfl rfl ?_
  refine o_getS W7 (w185 hw) Via.refl (z6.ext W7.ox) 14 (hb hy d30_11) rfl ?_
  intro T8 W8
  refine o_virtualC W8 (w186 hw) (w187 hw) (o_nf W8 rfl (w189 hw)) (w189 hw) (w188 hw) (by decide) P7_2 (w190 hw) (w169 hw) (rm124 l hw gO88 gO89 gO90 z0 r1_7 r2_7 r3_7 (((y1.toUInt64 >>> ((32 : Int32) &&& 0x3f).toInt64.toUInt64).toInt64).toInt32) (y1.toInt32) h7 W8.old z7 VgO89 P7_2 P7_4 P7_6 hc9 hc10 hc11 hc12 P7_3 z8 z9 XgO90) 0 13 38 (by decide) (by rw [hml]; rfl) (lenOf pd35 rfl) [] rfl rfl 17 (hb hy d30_14) rfl rfl rfl all0 tri ?_
  intro v13 T13 h13 lo13 W13 K13 q13
  obtain ⟨r1_13, r2_13, r3_13, r4_13, r5_13, P13_0, P13_1, P13_2, P13_3, P13_4, P13_5, P13_6, P13_7, P13_8, P13_9, rfl⟩ := q13.2.2
  show Gl _ _ _ _ _ _ _ _ [(.ref r1_13)]
  refine o_astoreN W13 (L' := #[vr a1, vr r1_7, vr r1_13]) 18 (hb hy d30_17) rfl rfl rfl <| o_aloadN W13 19 (hb hy d30_18) rfl rfl rfl <| o_iconst W13 (v := 0) 20 (hb hy d30_19) rfl rfl ?_
  refine o_aaload W13 P13_3 rfl (v := (.ref r2_13)) (i := 0) (by decide) (by decide) (by decide) rfl 21 (hb hy d30_20) rfl ?_
  refine o_virtualC W13 (w259 hw) (w260 hw) (o_nf W13 rfl (w262 hw)) (w262 hw) (w261 hw) (by decide) P13_5 (w263 hw) (w169 hw) (rm89 l hw r2_13 r3_13 r5_13 (((((((((y1.toUInt64 >>> ((32 : Int32) &&& 0x3f).toInt64.toUInt64).toInt64).toInt32).toInt64) &&& (4294967295 : Int64)) <<< ((32 : Int32) &&& 0x3f).toInt64) ||| (((y1.toInt32).toInt64) &&& (4294967295 : Int64))) / (((1000000000 : Int32).toInt64) &&& (4294967295 : Int64))).toInt32) h13 W13.old P13_8 P13_7 P13_9 hc14 hc15 hc16 hc17 hc18 P13_6 P13_5 (Nat.le_trans W8.zs P13_1)) 0 13 38 (by decide) (by rw [hml]; rfl) (lenOf pd9 rfl) [] rfl rfl 24 (hb hy d30_21) rfl rfl rfl (allS ⟨(Nat.le_trans W8.zs P13_1), (Or.inr (Nat.le_trans W8.keep.1 P13_1))⟩ all0) tri ?_
  intro v19 T19 h19 lo19 W19 K19 q19
  obtain ⟨P19_0, P19_1, P19_2, rfl⟩ := q19.2.2
  show Gl _ _ _ _ _ _ _ _ [(.int ((0 : Int32) + ((32 : Int32) - ((29 : Int32) - (((((((((((((y1.toUInt64 >>> ((32 : Int32) &&& 0x3f).toInt64.toUInt64).toInt64).toInt32).toInt64) &&& (4294967295 : Int64)) <<< ((32 : Int32) &&& 0x3f).toInt64) ||| (((y1.toInt32).toInt64) &&& (4294967295 : Int64))) / (((1000000000 : Int32).toInt64) &&& (4294967295 : Int64))).toInt32).toUInt32 >>> ((2 : Int32) &&& 31).toUInt32).toInt32).toUInt32 >>> ((1 : Int32) &&& 31).toUInt32).toInt32)))))]
  refine o_bipush W19 (v := 63) 26 (hb hy d30_24) (by decide) rfl <| o_icmpY W19 57 (hb hy d30_26) (XT.ii_le_t hc20) (by decide) rfl <| o_aloadN W19 58 (hb hy d30_57) rfl rfl rfl <| o_iconst W19 (v := 0) 59 (hb hy d30_58) rfl rfl ?_
  have c21 := (P13_5.keep K19)
  have c22 := (P13_3.keep K19 (ninS (Ne.symm (Exa.neArv P13_5 P13_3 (w173 hw))) nin0))
  refine o_aaload W19 c22 rfl (v := (.ref r2_13)) (i := 0) (by decide) (by decide) (by decide) rfl 60 (hb hy d30_59) rfl ?_
  have c23 := (P13_9.keep K19 (ninS (Ne.symm (Exa.neArv P13_5 P13_9 (w173 hw))) nin0))
  refine o_virtualC W19 (w274 hw) (w275 hw) (o_nf W19 rfl (w277 hw)) (w277 hw) (w276 hw) (by decide) c21 (w278 hw) (w169 hw) (rm61 l hw r2_13 r3_13 r5_13 (((((((((y1.toUInt64 >>> ((32 : Int32) &&& 0x3f).toInt64.toUInt64).toInt64).toInt32).toInt64) &&& (4294967295 : Int64)) <<< ((32 : Int32) &&& 0x3f).toInt64) ||| (((y1.toInt32).toInt64) &&& (4294967295 : Int64))) / (((1000000000 : Int32).toInt64) &&& (4294967295 : Int64))).toInt32) h19 W19.old c21 P19_1 c23 P19_2) 0 13 38 (by decide) (by rw [hml]; rfl) (lenOf pd7 rfl) [] rfl rfl 63 (hb hy d30_60) rfl rfl rfl all0 tri ?_
  intro v24 T24 h24 lo24 W24 K24 q24
  obtain rfl := q24.2.2
  show Gl _ _ _ _ _ _ _ _ [(.long ((0 : Int64) + (((((((((((y1.toUInt64 >>> ((32 : Int32) &&& 0x3f).toInt64.toUInt64).toInt64).toInt32).toInt64) &&& (4294967295 : Int64)) <<< ((32 : Int32) &&& 0x3f).toInt64) ||| (((y1.toInt32).toInt64) &&& (4294967295 : Int64))) / (((1000000000 : Int32).toInt64) &&& (4294967295 : Int64))).toInt32).toInt64) &&& (4294967295 : Int64))))]
  refine o_aloadN W24 64 (hb hy d30_63) rfl rfl rfl <| o_iconst W24 (v := 1) 65 (hb hy d30_64) rfl rfl ?_
  have c25 := (c22.keep K24 nin0)
  refine o_aaload W24 c25 rfl (v := (.ref gO90)) (i := 1) (by decide) (by decide) (by decide) rfl 66 (hb hy d30_65) rfl ?_
  refine o_virtualC W24 (w290 hw) (w291 hw) (o_nf W24 rfl (w293 hw)) (w293 hw) (w292 hw) (by decide) (XgO90.ext W24.ox) (w294 hw) (w169 hw) (rm64 l hw gO90 gO91 z1 h24 W24.old z10 VgO91 z11 XgO90) 2 13 38 (by decide) (by rw [hml]; rfl) (lenOf pd9 rfl) [(.long ((0 : Int64) + (((((((((((y1.toUInt64 >>> ((32 : Int32) &&& 0x3f).toInt64.toUInt64).toInt64).toInt32).toInt64) &&& (4294967295 : Int64)) <<< ((32 : Int32) &&& 0x3f).toInt64) ||| (((y1.toInt32).toInt64) &&& (4294967295 : Int64))) / (((1000000000 : Int32).toInt64) &&& (4294967295 : Int64))).toInt32).toInt64) &&& (4294967295 : Int64))))] rfl rfl 69 (hb hy d30_66) rfl rfl rfl all0 tri ?_
  intro v26 T26 h26 lo26 W26 K26 q26
  obtain rfl := q26.2.2
  show Gl _ _ _ _ _ _ _ _ [iZ, (.long ((0 : Int64) + (((((((((((y1.toUInt64 >>> ((32 : Int32) &&& 0x3f).toInt64.toUInt64).toInt64).toInt32).toInt64) &&& (4294967295 : Int64)) <<< ((32 : Int32) &&& 0x3f).toInt64) ||| (((y1.toInt32).toInt64) &&& (4294967295 : Int64))) / (((1000000000 : Int32).toInt64) &&& (4294967295 : Int64))).toInt32).toInt64) &&& (4294967295 : Int64))))]
  refine o_i2l W26 (v := 0) 70 (hb hy d30_69) (by decide) rfl ?_
  refine o_staticC W26 (w295 hw) (w296 hw) (w29 hw) (w297 hw) (by decide) (rm70 l hw ((0 : Int64) + (((((((((((y1.toUInt64 >>> ((32 : Int32) &&& 0x3f).toInt64.toUInt64).toInt64).toInt32).toInt64) &&& (4294967295 : Int64)) <<< ((32 : Int32) &&& 0x3f).toInt64) ||| (((y1.toInt32).toInt64) &&& (4294967295 : Int64))) / (((1000000000 : Int32).toInt64) &&& (4294967295 : Int64))).toInt32).toInt64) &&& (4294967295 : Int64))) h26 W26.old hc27 hc28) 0 14 40 (by decide) (by rw [hml]; rfl) (lenOf pd39 rfl) [] rfl rfl 73 (hb hy d30_70) rfl rfl rfl all0 tri ?_
  intro v29 T29 h29 lo29 W29 K29 q29
  obtain ⟨r1_29, P29_0, P29_1, P29_2, P29_3, rfl⟩ := q29.2.2
  show Gl _ _ _ _ _ _ _ _ [(.ref r1_29)]
  exact o_retA W29 hlk (v := (.ref r1_29)) hret rfl rfl (hb hy d30_73) (by decide) (by decide) ⟨r1_29, (Nat.le_trans W26.keep.1 P29_0), P29_1, P29_2, P29_3, rfl⟩
theorem rm126 (l : Launch) {Z a0} (hw : HW Z a0) (gO1 gO3 gO4 gO7 gO10 gO13 gO16 gO19 gO22 gO25 gO28 gO31 gO34 gO37 gO38 gO41 gO44 gO47 gO50 gO53 gO56 gO59 gO62 gO65 gO68 gO71 gO74 gO77 gO80 gO83 gO86 gO87 gO88 gO89 gO90 gO91 : Addr) (z0 z1 z2 z3 z4 z5 : ClassId) (h0 : Heap) (O0 : Old Z Z.heap.size h0) (z6 : Fld Z Z.heap gO1 s2 "seconds" "J" (.long 1)) (z7 : Sta Z Z.heap s0 s12 s7 (.ref gO3)) (VgO3 : Arv Z Z.heap gO3 z0 (.object s0) (11 : Int32) [(.ref gO4), (.ref gO7), (.ref gO10), (.ref gO13), (.ref gO16), (.ref gO19), (.ref gO22), (.ref gO25), (.ref gO28), (.ref gO31), (.ref gO34)] .null) (z8 : Fld Z Z.heap gO1 s2 "nanos" "I" iZ) (z9 : Sta Z Z.heap s0 s16 s7 (.ref gO37)) (VgO37 : Arv Z Z.heap gO37 z1 (.object s0) (16 : Int32) [(.ref gO38), (.ref gO41), (.ref gO44), (.ref gO47), (.ref gO50), (.ref gO53), (.ref gO56), (.ref gO59), (.ref gO62), (.ref gO65), (.ref gO68), (.ref gO71), (.ref gO74), (.ref gO77), (.ref gO80), (.ref gO83)] .null) (z10 : Fld Z Z.heap gO7 s0 s4 "J" (.long 1)) (z11 : Fld Z Z.heap gO65 s0 s4 "J" (.long 0)) (z12 : Fld Z Z.heap gO7 s0 "scale" "I" iZ) (z13 : Fld Z Z.heap gO65 s0 "scale" "I" (.int 9)) (z14 : Sta Z Z.heap s0 s13 "[J" (.ref gO86)) (z15 : Sta Z Z.heap s0 s14 "[J" (.ref gO87)) (VgO86 : Arv Z Z.heap gO86 z2 .long (19 : Int32) [(.long 1), (.long 10), (.long 100), (.long 1000), (.long 10000), (.long 100000), (.long 1000000), (.long 10000000), (.long 100000000), (.long 1000000000), (.long 10000000000), (.long 100000000000), (.long 1000000000000), (.long 10000000000000), (.long 100000000000000), (.long 1000000000000000), (.long 10000000000000000), (.long 100000000000000000), (.long 1000000000000000000)] (.long 0)) (VgO87 : Arv Z Z.heap gO87 z3 .long (19 : Int32) [(.long 9223372036854775807), (.long 922337203685477580), (.long 92233720368547758), (.long 9223372036854775), (.long 922337203685477), (.long 92233720368547), (.long 9223372036854), (.long 922337203685), (.long 92233720368), (.long 9223372036), (.long 922337203), (.long 92233720), (.long 9223372), (.long 922337), (.long 92233), (.long 9223), (.long 922), (.long 92), (.long 9)] (.long 0)) (XgO7 : Exa Z Z.heap gO7 s0) (XgO1 : Exa Z Z.heap gO1 s2) (z16 : Fld Z Z.heap gO28 s0 "scale" "I" iZ) (z17 : Fld Z Z.heap gO28 s0 s4 "J" (.long 8)) (z18 : Sta Z Z.heap s2 s15 s5 (.ref gO88)) (z19 : Fld Z Z.heap gO88 s1 "mag" "[I" (.ref gO89)) (VgO89 : Arv Z Z.heap gO89 z4 .int (1 : Int32) [(.int 1000000000)] iZ) (z20 : Fld Z Z.heap gO88 s1 "signum" "I" (.int 1)) (z21 : Sta Z Z.heap s1 "ZERO" s5 (.ref gO90)) (XgO90 : Exa Z Z.heap gO90 s1) (z22 : Fld Z Z.heap gO90 s1 "mag" "[I" (.ref gO91)) (VgO91 : Arv Z Z.heap gO91 z5 .int (0 : Int32) [] iZ) (z23 : Fld Z Z.heap gO90 s1 "signum" "I" iZ) :
    CtrN l Z mn2 jdk_2316_method_44_code 3 (some (.object s2)) [] (⟨8, 16, 50, 132⟩ : Room) #[(.ref gO1), (.long 8)] h0 [] (fun v h => ∃ r1 : Addr, h0.size ≤ r1 ∧ Exa Z h r1 s2 ∧ Fld Z h r1 s2 "seconds" "J" (.long 8) ∧ Fld Z h r1 s2 "nanos" "I" iZ ∧ v = some (.ref r1)) := by
  refine CtrN.intro (L0 := #[vr gO1, .val (.long 8), .second]) (plainFor_of_name pn1) O0 (fun _ => rfl) ?_
  intro p e s m below meth c T0 hy hml hret hlk hnm W0
  refine o_lloadN W0 1 (hb hy d6_0) rfl rfl <| o_lconst W0 (v := 0) 2 (hb hy d6_1) (by decide) rfl <| o_lcmp W0 (v := 1) 3 (hb hy d6_2) (by decide) rfl <| o_ifY W0 10 (hb hy d6_3) (XT.i0_ne_t (by decide)) (by decide) rfl <| o_lloadN W0 11 (hb hy d6_10) rfl rfl <| o_lconst W0 (v := 1) 12 (hb hy d6_11) (by decide) rfl ?_
  refine o_lcmp W0 (v := 1) 13 (hb hy d6_12) (by decide) rfl <| o_ifY W0 18 (hb hy d6_13) (XT.i0_ne_t (by decide)) (by decide) rfl <| o_aloadN W0 19 (hb hy d6_18) rfl rfl rfl ?_
  refine o_privateC W0 (w63 hw) (w64 hw) (w66 hw) (w65 hw) (w67 hw) (by decide) (XgO1.ext W0.ox) (w29 hw) (rm25 l hw gO1 gO3 gO4 gO7 gO10 gO13 gO16 gO19 gO22 gO25 gO28 gO31 gO34 gO37 gO38 gO41 gO44 gO47 gO50 gO53 gO56 gO59 gO62 gO65 gO68 gO71 gO74 gO77 gO80 gO83 gO86 gO87 z0 z1 z2 z3 h0 W0.old z6 z7 VgO3 z8 z9 VgO37 z10 z11 z12 z13 z14 z15 VgO86 VgO87 XgO7) 0 1 5 (by decide) (by rw [hml]; rfl) (lenOf pd20 rfl) [] rfl rfl 22 (hb hy d6_19) rfl rfl rfl all0 tri ?_
  intro v1 T1 h1 lo1 W1 K1 q1
  obtain ⟨r1_1, P1_0, P1_1, P1_2, P1_3, P1_4, P1_5, rfl⟩ := q1.2.2
  show Gl _ _ _ _ _ _ _ _ [(.ref r1_1)]
  refine o_lloadN W1 23 (hb hy d6_22) rfl rfl ?_
  refine o_staticC W1 (w68 hw) (w69 hw) (w70 hw) (w71 hw) (by decide) (rm100 l hw gO3 gO4 gO7 gO10 gO13 gO16 gO19 gO22 gO25 gO28 gO31 gO34 z0 h1 W1.old z7 VgO3) 1 1 5 (by decide) (by rw [hml]; rfl) (lenOf pd11 rfl) [(.ref r1_1)] rfl rfl 26 (hb hy d6_23) rfl rfl rfl all0 tri ?_
  intro v2 T2 h2 lo2 W2 K2 q2
  obtain rfl := q2.2.2
  show Gl _ _ _ _ _ _ _ _ [(.ref gO28), (.ref r1_1)]
  have c3 := (P1_3.keep K2 nin0)
  have c4 := (P1_2.keep K2 nin0)
  have c5 := (P1_1.keep K2)
  refine o_virtualC W2 (w125 hw) (w126 hw) (o_nf W2 rfl (w128 hw)) (w128 hw) (w127 hw) (by decide) c5 (w129 hw) (w70 hw) (rm104 l hw gO28 r1_1 (1000000000 : Int64) h2 W2.old c3 z16 c5 c4 (by decide) z17 (by decide) (by decide) (by decide) (by decide)) 0 2 10 (by decide) (by rw [hml]; rfl) (lenOf pd19 rfl) [] rfl rfl 29 (hb hy d6_26) rfl rfl rfl all0 tri ?_
  intro v6 T6 h6 lo6 W6 K6 q6
  obtain ⟨r1_6, P6_0, P6_1, P6_2, P6_3, P6_4, P6_5, rfl⟩ := q6.2.2
  rw [show ((1000000000 : Int64) * (8 : Int64)) = (8000000000 : Int64) from by decide] at P6_2
  show Gl _ _ _ _ _ _ _ _ [(.ref r1_6)]
  refine o_staticC W6 (w144 hw) (w145 hw) (w29 hw) (w146 hw) (by decide) (rm125 l hw gO88 gO89 gO90 gO91 z4 z5 r1_6 (8000000000 : Int64) h6 W6.old P6_1 P6_3 P6_5 P6_2 (by decide) (by decide) (by decide) (by decide) (by decide) z18 z19 VgO89 (by decide) (by decide) (by decide) (by decide) z20 z21 XgO90 (by decide) (by decide) (by decide) (by decide) (by decide) (by decide) z22 VgO91 z23 (by decide) (by decide)) 0 16 50 (by decide) (by rw [hml]; rfl) (lenOf pd40 rfl) [] rfl rfl 32 (hb hy d6_29) rfl rfl rfl all0 tri ?_
  intro v7 T7 h7 lo7 W7 K7 q7
  obtain ⟨r1_7, P7_0, P7_1, P7_2, P7_3, rfl⟩ := q7.2.2
  rw [show (((0 : Int64) + ((((((((((((8000000000 : Int64).toUInt64 >>> ((32 : Int32) &&& 0x3f).toInt64.toUInt64).toInt64).toInt32).toInt64) &&& (4294967295 : Int64)) <<< ((32 : Int32) &&& 0x3f).toInt64) ||| ((((8000000000 : Int64).toInt32).toInt64) &&& (4294967295 : Int64))) / (((1000000000 : Int32).toInt64) &&& (4294967295 : Int64))).toInt32).toInt64) &&& (4294967295 : Int64))) + (0 : Int64)) = (8 : Int64) from by decide] at P7_2
  show Gl _ _ _ _ _ _ _ _ [(.ref r1_7)]
  exact o_retA W7 hlk (v := (.ref r1_7)) hret rfl rfl (hb hy d6_32) (by decide) (by decide) ⟨r1_7, (Nat.le_trans W6.keep.1 P7_0), P7_1, P7_2, P7_3, rfl⟩
theorem rm127 (l : Launch) {Z a0} (hw : HW Z a0)  (h0 : Heap) (O0 : Old Z Z.heap.size h0) :
    CtrN l Z mn3 jdk_35_method_42_code 4 (some .int) [] (⟨0, 0, 0, 0⟩ : Room) #[(.long 8), (.long 10)] h0 [] (fun v h => v = some (.int (-1 : Int32))) := by
  refine CtrN.intro (L0 := #[.val (.long 8), .second, .val (.long 10), .second]) (plainFor_of_name pn2) O0 (fun _ => rfl) ?_
  intro p e s m below meth c T0 hy hml hret hlk hnm W0
  refine o_lloadN W0 1 (hb hy d8_0) rfl rfl <| o_lloadN W0 2 (hb hy d8_1) rfl rfl <| o_lcmp W0 (v := (-1 : Int32)) 3 (hb hy d8_2) (by decide) rfl <| o_ifN W0 6 (hb hy d8_3) (XT.i0_ge_f (by decide)) rfl <| o_iconst W0 (v := (-1 : Int32)) 7 (hb hy d8_6) (by decide) rfl <| o_goto W0 21 (hb hy d8_7) (by decide) rfl ?_
  exact o_retI W0 hlk hret (hb hy d8_21) (by decide) (by decide) rfl
theorem rm128 (l : Launch) {Z a0} (hw : HW Z a0) (gO2 a1 : Addr) (h0 : Heap) (O0 : Old Z Z.heap.size h0) (z0 : Fld Z h0 a1 s2 "seconds" "J" (.long 8)) (z1 : Fld Z Z.heap gO2 s2 "seconds" "J" (.long 10)) :
    CtrN l Z mn4 jdk_2316_method_66_code 3 (some .int) [] (⟨1, 0, 0, 15⟩ : Room) #[(.ref a1), (.ref gO2)] h0 [] (fun v h => v = some (.int (-1 : Int32))) := by
  refine CtrN.intro (L0 := #[vr a1, vr gO2, un]) (plainFor_of_name pn1) O0 (fun _ => rfl) ?_
  intro p e s m below meth c T0 hy hml hret hlk hnm W0
  refine o_aloadN W0 1 (hb hy d7_0) rfl rfl rfl ?_
  refine o_getF W0 (w38 hw) Via.refl z0 4 (hb hy d7_1) rfl ?_
  intro T1 W1
  refine o_aloadN W1 5 (hb hy d7_4) rfl rfl rfl ?_
  refine o_getF W1 (w38 hw) Via.refl (z1.ext W1.ox) 8 (hb hy d7_5) rfl ?_
  intro T2 W2
  refine o_staticC W2 (w40 hw) (w41 hw) (w42 hw) (w43 hw) (by decide) (rm127 l hw  h0 W2.old ) 0 0 0 (by decide) (by rw [hml]; rfl) (lenOf pd3 rfl) [] rfl rfl 11 (hb hy d7_8) rfl rfl rfl all0 tri ?_
  intro v3 T3 h3 lo3 W3 K3 q3
  obtain rfl := q3.2.2
  show Gl _ _ _ _ _ _ _ _ [(.int (-1 : Int32))]
  refine o_istoreN W3 (L' := #[vr a1, vr gO2, vi (-1 : Int32)]) 12 (hb hy d7_11) rfl rfl <| o_iloadN W3 13 (hb hy d7_12) rfl rfl <| o_ifN W3 16 (hb hy d7_13) (XT.i0_eq_f (by decide)) rfl <| o_iloadN W3 17 (hb hy d7_16) rfl rfl ?_
  exact o_retI W3 hlk hret (hb hy d7_17) (by decide) (by decide) rfl
theorem rm129 (l : Launch) {Z a0} (hw : HW Z a0) (gO1 gO2 gO3 gO4 gO7 gO10 gO13 gO16 gO19 gO22 gO25 gO28 gO31 gO34 gO37 gO38 gO41 gO44 gO47 gO50 gO53 gO56 gO59 gO62 gO65 gO68 gO71 gO74 gO77 gO80 gO83 gO86 gO87 gO88 gO89 gO90 gO91 : Addr) (z0 z1 z2 z3 z4 z5 : ClassId) (h0 : Heap) (O0 : Old Z Z.heap.size h0) (z6 : Sta Z Z.heap s6 "FIRST" s9 (.ref gO1)) (z7 : Fld Z Z.heap gO1 s2 "seconds" "J" (.long 1)) (z8 : Sta Z Z.heap s0 s12 s7 (.ref gO3)) (VgO3 : Arv Z Z.heap gO3 z0 (.object s0) (11 : Int32) [(.ref gO4), (.ref gO7), (.ref gO10), (.ref gO13), (.ref gO16), (.ref gO19), (.ref gO22), (.ref gO25), (.ref gO28), (.ref gO31), (.ref gO34)] .null) (z9 : Fld Z Z.heap gO1 s2 "nanos" "I" iZ) (z10 : Sta Z Z.heap s0 s16 s7 (.ref gO37)) (VgO37 : Arv Z Z.heap gO37 z1 (.object s0) (16 : Int32) [(.ref gO38), (.ref gO41), (.ref gO44), (.ref gO47), (.ref gO50), (.ref gO53), (.ref gO56), (.ref gO59), (.ref gO62), (.ref gO65), (.ref gO68), (.ref gO71), (.ref gO74), (.ref gO77), (.ref gO80), (.ref gO83)] .null) (z11 : Fld Z Z.heap gO7 s0 s4 "J" (.long 1)) (z12 : Fld Z Z.heap gO65 s0 s4 "J" (.long 0)) (z13 : Fld Z Z.heap gO7 s0 "scale" "I" iZ) (z14 : Fld Z Z.heap gO65 s0 "scale" "I" (.int 9)) (z15 : Sta Z Z.heap s0 s13 "[J" (.ref gO86)) (z16 : Sta Z Z.heap s0 s14 "[J" (.ref gO87)) (VgO86 : Arv Z Z.heap gO86 z2 .long (19 : Int32) [(.long 1), (.long 10), (.long 100), (.long 1000), (.long 10000), (.long 100000), (.long 1000000), (.long 10000000), (.long 100000000), (.long 1000000000), (.long 10000000000), (.long 100000000000), (.long 1000000000000), (.long 10000000000000), (.long 100000000000000), (.long 1000000000000000), (.long 10000000000000000), (.long 100000000000000000), (.long 1000000000000000000)] (.long 0)) (VgO87 : Arv Z Z.heap gO87 z3 .long (19 : Int32) [(.long 9223372036854775807), (.long 922337203685477580), (.long 92233720368547758), (.long 9223372036854775), (.long 922337203685477), (.long 92233720368547), (.long 9223372036854), (.long 922337203685), (.long 92233720368), (.long 9223372036), (.long 922337203), (.long 92233720), (.long 9223372), (.long 922337), (.long 92233), (.long 9223), (.long 922), (.long 92), (.long 9)] (.long 0)) (XgO7 : Exa Z Z.heap gO7 s0) (XgO1 : Exa Z Z.heap gO1 s2) (z17 : Fld Z Z.heap gO28 s0 "scale" "I" iZ) (z18 : Fld Z Z.heap gO28 s0 s4 "J" (.long 8)) (z19 : Sta Z Z.heap s2 s15 s5 (.ref gO88)) (z20 : Fld Z Z.heap gO88 s1 "mag" "[I" (.ref gO89)) (VgO89 : Arv Z Z.heap gO89 z4 .int (1 : Int32) [(.int 1000000000)] iZ) (z21 : Fld Z Z.heap gO88 s1 "signum" "I" (.int 1)) (z22 : Sta Z Z.heap s1 "ZERO" s5 (.ref gO90)) (XgO90 : Exa Z Z.heap gO90 s1) (z23 : Fld Z Z.heap gO90 s1 "mag" "[I" (.ref gO91)) (VgO91 : Arv Z Z.heap gO91 z5 .int (0 : Int32) [] iZ) (z24 : Fld Z Z.heap gO90 s1 "signum" "I" iZ) (z25 : Sta Z Z.heap s6 "MAX" s9 (.ref gO2)) (z26 : Fld Z Z.heap gO2 s2 "seconds" "J" (.long 10)) :
    CtrN l Z mn5 prog_3_method_2_code 2 (some (.object s2)) [] (⟨9, 16, 50, 146⟩ : Room) #[(.int 4)] h0 [] (fun v h => ∃ r1 : Addr, h0.size ≤ r1 ∧ Exa Z h r1 s2 ∧ Fld Z h r1 s2 "seconds" "J" (.long 8) ∧ Fld Z h r1 s2 "nanos" "I" iZ ∧ v = some (.ref r1)) := by
  refine CtrN.intro (L0 := #[vi 4, un]) (plainFor_of_name pn0) O0 (fun _ => rfl) ?_
  intro p e s m below meth c T0 hy hml hret hlk hnm W0
  refine o_iloadN W0 1 (hb hy d4_0) rfl rfl <| o_iconst W0 (v := 1) 2 (hb hy d4_1) rfl rfl <| o_icmpY W0 19 (hb hy d4_2) (XT.ii_ge_t (by decide)) (by decide) rfl ?_
  refine o_getS W0 (w19 hw) Via.refl (z6.ext W0.ox) 22 (hb hy d4_19) rfl ?_
  intro T1 W1
  refine o_lconst W1 (v := 1) 23 (hb hy d4_22) (by decide) rfl <| o_iloadN W1 24 (hb hy d4_23) rfl rfl <| o_iconst W1 (v := 1) 25 (hb hy d4_24) rfl rfl <| o_isub W1 (v := 3) 26 (hb hy d4_25) (by decide) rfl <| o_iconst W1 (v := 4) 27 (hb hy d4_26) rfl rfl ?_
  refine o_staticC W1 (w21 hw) (w22 hw) (w23 hw) (w24 hw) (by decide) (rm99 l hw  h0 W1.old ) 3 0 0 (by decide) (by rw [hml]; rfl) (lenOf pd1 rfl) [(.long 1), (.ref gO1)] rfl rfl 30 (hb hy d4_27) rfl rfl rfl all0 tri ?_
  intro v2 T2 h2 lo2 W2 K2 q2
  obtain rfl := q2.2.2
  show Gl _ _ _ _ _ _ _ _ [(.int 3), (.long 1), (.ref gO1)]
  refine o_lshl W2 (v := 8) 31 (hb hy d4_30) (by decide) rfl ?_
  refine o_virtualC W2 (w25 hw) (w26 hw) (o_nf W2 rfl (w28 hw)) (w28 hw) (w27 hw) (by decide) (XgO1.ext W2.ox) (w30 hw) (w29 hw) (rm126 l hw gO1 gO3 gO4 gO7 gO10 gO13 gO16 gO19 gO22 gO25 gO28 gO31 gO34 gO37 gO38 gO41 gO44 gO47 gO50 gO53 gO56 gO59 gO62 gO65 gO68 gO71 gO74 gO77 gO80 gO83 gO86 gO87 gO88 gO89 gO90 gO91 z0 z1 z2 z3 z4 z5 h2 W2.old z7 z8 VgO3 z9 z10 VgO37 z11 z12 z13 z14 z15 z16 VgO86 VgO87 XgO7 XgO1 z17 z18 z19 z20 VgO89 z21 z22 XgO90 z23 VgO91 z24) 0 16 50 (by decide) (by rw [hml]; rfl) (lenOf pd2 rfl) [] rfl rfl 34 (hb hy d4_31) rfl rfl rfl all0 tri ?_
  intro v3 T3 h3 lo3 W3 K3 q3
  obtain ⟨r1_3, P3_0, P3_1, P3_2, P3_3, rfl⟩ := q3.2.2
  show Gl _ _ _ _ _ _ _ _ [(.ref r1_3)]
  refine o_astoreN W3 (L' := #[vi 4, vr r1_3]) 35 (hb hy d4_34) rfl rfl rfl <| o_aloadN W3 36 (hb hy d4_35) rfl rfl rfl ?_
  refine o_getS W3 (w31 hw) Via.refl (z25.ext W3.ox) 39 (hb hy d4_36) rfl ?_
  intro T4 W4
  refine o_virtualC W4 (w33 hw) (w34 hw) (o_nf W4 rfl (w36 hw)) (w36 hw) (w35 hw) (by decide) P3_1 (w37 hw) (w29 hw) (rm128 l hw gO2 r1_3 h3 W4.old P3_2 z26) 0 16 50 (by decide) (by rw [hml]; rfl) (lenOf pd4 rfl) [] rfl rfl 42 (hb hy d4_39) rfl rfl rfl all0 tri ?_
  intro v5 T5 h5 lo5 W5 K5 q5
  obtain rfl := q5.2.2
  show Gl _ _ _ _ _ _ _ _ [(.int (-1 : Int32))]
  refine o_ifN W5 45 (hb hy d4_42) (XT.i0_ge_f (by decide)) rfl <| o_aloadN W5 46 (hb hy d4_45) rfl rfl rfl <| o_goto W5 52 (hb hy d4_46) (by decide) rfl ?_
  have c6 := (P3_1.keep K5)
  have c7 := (P3_2.keep K5 nin0)
  have c8 := (P3_3.keep K5 nin0)
  exact o_retA W5 hlk (v := (.ref r1_3)) hret rfl rfl (hb hy d4_52) (by decide) (by decide) ⟨r1_3, (Nat.le_trans W2.keep.1 P3_0), c6, c7, c8, rfl⟩
theorem rm130 (l : Launch) {Z a0} (hw : HW Z a0) (gO1 gO2 gO3 gO4 gO7 gO10 gO13 gO16 gO19 gO22 gO25 gO28 gO31 gO34 gO37 gO38 gO41 gO44 gO47 gO50 gO53 gO56 gO59 gO62 gO65 gO68 gO71 gO74 gO77 gO80 gO83 gO86 gO87 gO88 gO89 gO90 gO91 : Addr) (z0 z1 z2 z3 z4 z5 : ClassId) (a1 : Addr) (h0 : Heap) (O0 : Old Z Z.heap.size h0) (z6 : Fld Z h0 a1 s6 s11 "I" (.int 3)) (z7 : Exa Z h0 a1 s6) (z8 : Z.heap.size ≤ a1) (z9 : Sta Z Z.heap s6 "FIRST" s9 (.ref gO1)) (z10 : Fld Z Z.heap gO1 s2 "seconds" "J" (.long 1)) (z11 : Sta Z Z.heap s0 s12 s7 (.ref gO3)) (VgO3 : Arv Z Z.heap gO3 z0 (.object s0) (11 : Int32) [(.ref gO4), (.ref gO7), (.ref gO10), (.ref gO13), (.ref gO16), (.ref gO19), (.ref gO22), (.ref gO25), (.ref gO28), (.ref gO31), (.ref gO34)] .null) (z12 : Fld Z Z.heap gO1 s2 "nanos" "I" iZ) (z13 : Sta Z Z.heap s0 s16 s7 (.ref gO37)) (VgO37 : Arv Z Z.heap gO37 z1 (.object s0) (16 : Int32) [(.ref gO38), (.ref gO41), (.ref gO44), (.ref gO47), (.ref gO50), (.ref gO53), (.ref gO56), (.ref gO59), (.ref gO62), (.ref gO65), (.ref gO68), (.ref gO71), (.ref gO74), (.ref gO77), (.ref gO80), (.ref gO83)] .null) (z14 : Fld Z Z.heap gO7 s0 s4 "J" (.long 1)) (z15 : Fld Z Z.heap gO65 s0 s4 "J" (.long 0)) (z16 : Fld Z Z.heap gO7 s0 "scale" "I" iZ) (z17 : Fld Z Z.heap gO65 s0 "scale" "I" (.int 9)) (z18 : Sta Z Z.heap s0 s13 "[J" (.ref gO86)) (z19 : Sta Z Z.heap s0 s14 "[J" (.ref gO87)) (VgO86 : Arv Z Z.heap gO86 z2 .long (19 : Int32) [(.long 1), (.long 10), (.long 100), (.long 1000), (.long 10000), (.long 100000), (.long 1000000), (.long 10000000), (.long 100000000), (.long 1000000000), (.long 10000000000), (.long 100000000000), (.long 1000000000000), (.long 10000000000000), (.long 100000000000000), (.long 1000000000000000), (.long 10000000000000000), (.long 100000000000000000), (.long 1000000000000000000)] (.long 0)) (VgO87 : Arv Z Z.heap gO87 z3 .long (19 : Int32) [(.long 9223372036854775807), (.long 922337203685477580), (.long 92233720368547758), (.long 9223372036854775), (.long 922337203685477), (.long 92233720368547), (.long 9223372036854), (.long 922337203685), (.long 92233720368), (.long 9223372036), (.long 922337203), (.long 92233720), (.long 9223372), (.long 922337), (.long 92233), (.long 9223), (.long 922), (.long 92), (.long 9)] (.long 0)) (XgO7 : Exa Z Z.heap gO7 s0) (XgO1 : Exa Z Z.heap gO1 s2) (z20 : Fld Z Z.heap gO28 s0 "scale" "I" iZ) (z21 : Fld Z Z.heap gO28 s0 s4 "J" (.long 8)) (z22 : Sta Z Z.heap s2 s15 s5 (.ref gO88)) (z23 : Fld Z Z.heap gO88 s1 "mag" "[I" (.ref gO89)) (VgO89 : Arv Z Z.heap gO89 z4 .int (1 : Int32) [(.int 1000000000)] iZ) (z24 : Fld Z Z.heap gO88 s1 "signum" "I" (.int 1)) (z25 : Sta Z Z.heap s1 "ZERO" s5 (.ref gO90)) (XgO90 : Exa Z Z.heap gO90 s1) (z26 : Fld Z Z.heap gO90 s1 "mag" "[I" (.ref gO91)) (VgO91 : Arv Z Z.heap gO91 z5 .int (0 : Int32) [] iZ) (z27 : Fld Z Z.heap gO90 s1 "signum" "I" iZ) (z28 : Sta Z Z.heap s6 "MAX" s9 (.ref gO2)) (z29 : Fld Z Z.heap gO2 s2 "seconds" "J" (.long 10)) :
    CtrN l Z mn6 prog_3_method_3_code 1 (some (.object s2)) [] (⟨10, 16, 50, 159⟩ : Room) #[(.ref a1)] h0 [a1] (fun v h => ∃ r1 : Addr, h0.size ≤ r1 ∧ Fld Z h a1 s6 s11 "I" (.int 4) ∧ Exa Z h r1 s2 ∧ Fld Z h r1 s2 "seconds" "J" (.long 8) ∧ Fld Z h r1 s2 "nanos" "I" iZ ∧ v = some (.ref r1)) := by
  refine CtrN.intro (L0 := #[vr a1]) (plainFor_of_name pn0) O0 (fun _ => rfl) ?_
  intro p e s m below meth c T0 hy hml hret hlk hnm W0
  refine o_aloadN W0 1 (hb hy d3_0) rfl rfl rfl <| o_dup W0 2 (hb hy d3_1) rfl rfl ?_
  refine o_getF W0 (w14 hw) Via.refl z6 5 (hb hy d3_2) rfl ?_
  intro T1 W1
  refine o_iconst W1 (v := 1) 6 (hb hy d3_5) rfl rfl <| o_iadd W1 (v := 4) 7 (hb hy d3_6) (by decide) rfl ?_
  refine o_putF W1 (w14 hw) Via.refl z6 z7 (Or.inl (w15 hw)) (w1 hw) (ty := .int) (v' := (.int 4)) (by decide) rfl rfl z8 m0 tri 10 (hb hy d3_7) rfl ?_
  intro T2 h2 lo2 W2 R2
  have F2 := z6.same R2
  refine o_aloadN W2 11 (hb hy d3_10) rfl rfl rfl ?_
  refine o_getF W2 (w14 hw) Via.refl F2 14 (hb hy d3_11) rfl ?_
  intro T3 W3
  refine o_staticC W3 (w16 hw) (w17 hw) (w2 hw) (w18 hw) (by decide) (rm129 l hw gO1 gO2 gO3 gO4 gO7 gO10 gO13 gO16 gO19 gO22 gO25 gO28 gO31 gO34 gO37 gO38 gO41 gO44 gO47 gO50 gO53 gO56 gO59 gO62 gO65 gO68 gO71 gO74 gO77 gO80 gO83 gO86 gO87 gO88 gO89 gO90 gO91 z0 z1 z2 z3 z4 z5 h2 W3.old z9 z10 z11 VgO3 z12 z13 VgO37 z14 z15 z16 z17 z18 z19 VgO86 VgO87 XgO7 XgO1 z20 z21 z22 z23 VgO89 z24 z25 XgO90 z26 VgO91 z27 z28 z29) 0 16 50 (by decide) (by rw [hml]; rfl) (lenOf pd5 rfl) [] rfl rfl 17 (hb hy d3_14) rfl rfl rfl all0 tri ?_
  intro v4 T4 h4 lo4 W4 K4 q4
  obtain ⟨r1_4, P4_0, P4_1, P4_2, P4_3, rfl⟩ := q4.2.2
  show Gl _ _ _ _ _ _ _ _ [(.ref r1_4)]
  have c5 := (F2.keep K4 nin0)
  have c6 := ((z7.wr R2).keep K4)
  exact o_retA W4 hlk (v := (.ref r1_4)) hret rfl rfl (hb hy d3_17) (by decide) (by decide) ⟨r1_4, (Nat.le_trans W3.keep.1 P4_0), c5, P4_1, P4_2, P4_3, rfl⟩
theorem rm131 (l : Launch) {Z a0} (hw : HW Z a0) (a1 : Addr) (h0 : Heap) (O0 : Old Z Z.heap.size h0) (z0 : Fld Z h0 a1 s2 "seconds" "J" (.long 8)) :
    CtrN l Z mn7 jdk_2316_method_23_code 1 (some .long) [] (⟨0, 0, 0, 0⟩ : Room) #[(.ref a1)] h0 [] (fun v h => v = some (.long 8)) := by
  refine CtrN.intro (L0 := #[vr a1]) (plainFor_of_name pn1) O0 (fun _ => rfl) ?_
  intro p e s m below meth c T0 hy hml hret hlk hnm W0
  refine o_aloadN W0 1 (hb hy d10_0) rfl rfl rfl ?_
  refine o_getF W0 (w38 hw) Via.refl z0 4 (hb hy d10_1) rfl ?_
  intro T1 W1
  exact o_retJ W1 hlk hret (hb hy d10_4) (by decide) (by decide) rfl
theorem rm132 (l : Launch) {Z a0} (hw : HW Z a0)  (h0 : Heap) (O0 : Old Z Z.heap.size h0) :
    CtrN l Z mn8 method_2_code 1 (some .long) [] (⟨0, 0, 0, 0⟩ : Room) #[(.int 4)] h0 [] (fun v h => v = some (.long 8)) := by
  refine CtrN.intro (L0 := #[vi 4]) (plainFor_of_name pn3) O0 (fun _ => rfl) ?_
  intro p e s m below meth c T0 hy hml hret hlk hnm W0
  refine o_iloadN W0 1 (hb hy d11_0) rfl rfl <| o_iconst W0 (v := 1) 2 (hb hy d11_1) rfl rfl <| o_icmpY W0 7 (hb hy d11_2) (XT.ii_ne_t (by decide)) (by decide) rfl <| o_iloadN W0 8 (hb hy d11_7) rfl rfl <| o_iconst W0 (v := 2) 9 (hb hy d11_8) rfl rfl <| o_icmpY W0 16 (hb hy d11_9) (XT.ii_ne_t (by decide)) (by decide) rfl ?_
  refine o_iloadN W0 17 (hb hy d11_16) rfl rfl <| o_iconst W0 (v := 3) 18 (hb hy d11_17) rfl rfl <| o_icmpY W0 25 (hb hy d11_18) (XT.ii_ne_t (by decide)) (by decide) rfl <| o_iloadN W0 26 (hb hy d11_25) rfl rfl <| o_iconst W0 (v := 4) 27 (hb hy d11_26) rfl rfl <| o_icmpN W0 30 (hb hy d11_27) (XT.ii_ne_f (by decide)) rfl ?_
  refine o_ldcJ W0 (w344 hw) 33 (hb hy d11_30) rfl ?_
  exact o_retJ W0 hlk hret (hb hy d11_33) (by decide) (by decide) rfl
theorem rm133 (l : Launch) {Z a0} (hw : HW Z a0) (a1 : Addr) (h0 : Heap) (O0 : Old Z Z.heap.size h0) (z0 : Exa Z h0 a1 s2) (z1 : Fld Z h0 a1 s2 "seconds" "J" (.long 8)) (z2 : Fld Z h0 a1 s2 "nanos" "I" iZ) :
    CtrN l Z mn10 method_3_code 2 (some .boolean) [] (⟨1, 0, 0, 14⟩ : Room) #[(.ref a1), (.int 4)] h0 [] (fun v h => v = some (.int 1)) := by
  refine CtrN.intro (L0 := #[vr a1, vi 4]) (plainFor_of_name pn3) O0 (fun _ => rfl) ?_
  intro p e s m below meth c T0 hy hml hret hlk hnm W0
  refine o_aloadN W0 1 (hb hy d9_0) rfl rfl rfl ?_
  refine o_ifnullN W0 4 (hb hy d9_1) rfl ?_
  refine o_aloadN W0 5 (hb hy d9_4) rfl rfl rfl ?_
  refine o_virtualC W0 (w48 hw) (w49 hw) (o_nf W0 rfl (w51 hw)) (w51 hw) (w50 hw) (by decide) z0 (w52 hw) (w29 hw) (rm131 l hw a1 h0 W0.old z1) 0 0 0 (by decide) (by rw [hml]; rfl) (lenOf pd7 rfl) [] rfl rfl 8 (hb hy d9_5) rfl rfl rfl all0 tri ?_
  intro v1 T1 h1 lo1 W1 K1 q1
  obtain rfl := q1.2.2
  show Gl _ _ _ _ _ _ _ _ [(.long 8)]
  refine o_iloadN W1 9 (hb hy d9_8) rfl rfl ?_
  refine o_staticC W1 (w53 hw) (w54 hw) (w46 hw) (w55 hw) (by decide) (rm132 l hw  h1 W1.old ) 2 0 0 (by decide) (by rw [hml]; rfl) (lenOf pd8 rfl) [(.long 8)] rfl rfl 12 (hb hy d9_9) rfl rfl rfl all0 tri ?_
  intro v2 T2 h2 lo2 W2 K2 q2
  obtain rfl := q2.2.2
  show Gl _ _ _ _ _ _ _ _ [(.long 8), (.long 8)]
  refine o_lcmp W2 (v := 0) 13 (hb hy d9_12) (by decide) rfl <| o_ifN W2 16 (hb hy d9_13) (XT.i0_ne_f (by decide)) rfl <| o_aloadN W2 17 (hb hy d9_16) rfl rfl rfl ?_
  have c3 := ((z2.keep K1 nin0).keep K2 nin0)
  have c4 := ((z0.keep K1).keep K2)
  refine o_virtualC W2 (w56 hw) (w57 hw) (o_nf W2 rfl (w59 hw)) (w59 hw) (w58 hw) (by decide) c4 (w60 hw) (w29 hw) (rm79 l hw a1 h2 W2.old c3) 0 0 0 (by decide) (by rw [hml]; rfl) (lenOf pd9 rfl) [] rfl rfl 20 (hb hy d9_17) rfl rfl rfl all0 tri ?_
  intro v5 T5 h5 lo5 W5 K5 q5
  obtain rfl := q5.2.2
  show Gl _ _ _ _ _ _ _ _ [iZ]
  refine o_ifN W5 23 (hb hy d9_20) (XT.i0_ne_f (by decide)) rfl <| o_iconst W5 (v := 1) 24 (hb hy d9_23) rfl rfl <| o_goto W5 28 (hb hy d9_24) (by decide) rfl ?_
  exact o_retN W5 hlk (t := .boolean) hret (by simp) (z' := (1 : Int32)) (by decide) (hb hy d9_28) (by decide) (by decide) rfl
theorem rm134 (l : Launch) {Z a0} (hw : HW Z a0)  (h0 : Heap) (O0 : Old Z Z.heap.size h0) :
    CtrN l Z mn1 jdk_29_method_69_code 2 (some .int) [] (⟨0, 0, 0, 0⟩ : Room) #[(.int 4), (.int 4)] h0 [] (fun v h => v = some (.int 4)) := by
  refine CtrN.intro (L0 := #[vi 4, vi 4]) (Jvm.Free.JP.mathPlain rfl (by decide +kernel)) O0 (fun _ => rfl) ?_
  intro p e s m below meth c T0 hy hml hret hlk hnm W0
  refine o_iloadN W0 1 (hb hy d5_0) rfl rfl <| o_iloadN W0 2 (hb hy d5_1) rfl rfl <| o_icmpN W0 5 (hb hy d5_2) (XT.ii_gt_f (by decide)) rfl <| o_iloadN W0 6 (hb hy d5_5) rfl rfl <| o_goto W0 10 (hb hy d5_6) (by decide) rfl ?_
  exact o_retI W0 hlk hret (hb hy d5_10) (by decide) (by decide) rfl
theorem rm135 (l : Launch) {Z a0} (hw : HW Z a0) (a1 : Addr) (h0 : Heap) (O0 : Old Z Z.heap.size h0) (z0 : Exa Z h0 a1 s0) (z1 : Fld Z h0 a1 s0 "scale" "I" iZ) (z2 : Z.heap.size ≤ a1) (z3 : Fld Z h0 a1 s0 s10 "I" iZ) (z4 : Fld Z h0 a1 s0 s4 "J" (.long 0)) (z5 : Fld Z h0 a1 s0 "intVal" s5 .null) :
    CtrN l Z mn18 jdk_17_method_1_code 6 none [] (⟨2, 0, 0, 24⟩ : Room) #[(.ref a1), .null, (.long 16), iZ, iZ] h0 [a1] (fun v h => Fld Z h a1 s0 "scale" "I" iZ ∧ Fld Z h a1 s0 s10 "I" iZ ∧ Fld Z h a1 s0 s4 "J" (.long 16) ∧ Fld Z h a1 s0 "intVal" s5 .null ∧ v = none) := by
  refine CtrN.intro (L0 := #[vr a1, .val .null, .val (.long 16), .second, vi 0, vi 0]) (plainFor_of_name pn4) O0 (fun _ => rfl) ?_
  intro p e s m below meth c T0 hy hml hret hlk hnm W0
  refine o_aloadN W0 1 (hb hy d23_0) rfl rfl rfl ?_
  refine o_specialC W0 rfl (w114 hw) (w115 hw) (w119 hw) (by decide) (w118 hw) (rm19 l hw a1 h0 W0.old ) 0 0 0 (by decide) (by rw [hml]; rfl) (lenOf pd0 rfl) [] rfl rfl 4 (hb hy d23_1) rfl rfl rfl all0 tri ?_
  intro v1 T1 h1 lo1 W1 K1 q1
  obtain rfl := q1.2.2
  show Gl _ _ _ _ _ _ _ _ []
  refine o_aloadN W1 5 (hb hy d23_4) rfl rfl rfl <| o_iload W1 7 (hb hy d23_5) rfl rfl ?_
  have c2 := (z0.keep K1)
  have c3 := (z1.keep K1 nin0)
  refine o_putF W1 (w88 hw) Via.refl c3 c2 (Or.inr ⟨(w89 hw), rfl, hnm⟩) (w109 hw) (ty := .int) (v' := iZ) (by decide) rfl rfl z2 m0 tri 10 (hb hy d23_7) rfl ?_
  intro T4 h4 lo4 W4 R4
  have F4 := c3.same R4
  refine o_aloadN W4 11 (hb hy d23_10) rfl rfl rfl <| o_iload W4 13 (hb hy d23_11) rfl rfl ?_
  have c5 := (c2.wr R4)
  have c6 := ((z3.keep K1 nin0).other R4 (Or.inr (slot_ne (Or.inl (w122 hw)) (Or.inr (w89 hw)) (by decide) (t := .int) (t' := .int) (by decide) (by decide))))
  refine o_putF W4 (w121 hw) Via.refl c6 c5 (Or.inl (w122 hw)) (w109 hw) (ty := .int) (v' := iZ) (by decide) rfl rfl z2 m0 tri 16 (hb hy d23_13) rfl ?_
  intro T7 h7 lo7 W7 R7
  have F7 := c6.same R7
  refine o_aloadN W7 17 (hb hy d23_16) rfl rfl rfl <| o_lloadN W7 18 (hb hy d23_17) rfl rfl ?_
  have c8 := (c5.wr R7)
  have c9 := (((z4.keep K1 nin0).other R4 (Or.inr (slot_ne (Or.inr (w86 hw)) (Or.inr (w89 hw)) (by decide) (t := .long) (t' := .int) (by decide) (by decide)))).other R7 (Or.inr (slot_ne (Or.inr (w86 hw)) (Or.inl (w122 hw)) (by decide) (t := .long) (t' := .int) (by decide) (by decide))))
  refine o_putF W7 (w85 hw) Via.refl c9 c8 (Or.inr ⟨(w86 hw), rfl, hnm⟩) (w109 hw) (ty := .long) (v' := (.long 16)) (by decide) rfl rfl z2 m0 tri 21 (hb hy d23_18) rfl ?_
  intro T10 h10 lo10 W10 R10
  have F10 := c9.same R10
  refine o_aloadN W10 22 (hb hy d23_21) rfl rfl rfl <| o_aloadN W10 23 (hb hy d23_22) rfl rfl rfl ?_
  have c11 := (c8.wr R10)
  have c12 := ((((z5.keep K1 nin0).other R4 (Or.inr (slot_ne (Or.inr (w124 hw)) (Or.inr (w89 hw)) (by decide) (t := (.object s1)) (t' := .int) (by decide) (by decide)))).other R7 (Or.inr (slot_ne (Or.inr (w124 hw)) (Or.inl (w122 hw)) (by decide) (t := (.object s1)) (t' := .int) (by decide) (by decide)))).other R10 (Or.inr (slot_ne (Or.inr (w124 hw)) (Or.inr (w86 hw)) (by decide) (t := (.object s1)) (t' := .long) (by decide) (by decide))))
  refine o_putF W10 (w123 hw) Via.refl c12 c11 (Or.inr ⟨(w124 hw), rfl, hnm⟩) (w109 hw) (ty := (.object s1)) (v' := .null) (by decide) rfl rfl z2 m0 tri 26 (hb hy d23_23) rfl ?_
  intro T13 h13 lo13 W13 R13
  have F13 := c12.same R13
  have c14 := (F10.other R13 (Or.inr (slot_ne (Or.inr (w86 hw)) (Or.inr (w124 hw)) (by decide) (t := .long) (t' := (.object s1)) (by decide) (by decide))))
  have c15 := (((F4.other R7 (Or.inr (slot_ne (Or.inr (w89 hw)) (Or.inl (w122 hw)) (by decide) (t := .int) (t' := .int) (by decide) (by decide)))).other R10 (Or.inr (slot_ne (Or.inr (w89 hw)) (Or.inr (w86 hw)) (by decide) (t := .int) (t' := .long) (by decide) (by decide)))).other R13 (Or.inr (slot_ne (Or.inr (w89 hw)) (Or.inr (w124 hw)) (by decide) (t := .int) (t' := (.object s1)) (by decide) (by decide))))
  have c16 := ((F7.other R10 (Or.inr (slot_ne (Or.inl (w122 hw)) (Or.inr (w86 hw)) (by decide) (t := .int) (t' := .long) (by decide) (by decide)))).other R13 (Or.inr (slot_ne (Or.inl (w122 hw)) (Or.inr (w124 hw)) (by decide) (t := .int) (t' := (.object s1)) (by decide) (by decide))))
  have c17 := (c11.wr R13)
  exact o_ret0 W13 hlk hret (hb hy d23_26) (by decide) (by decide) ⟨c15, c16, c14, F13, rfl⟩
theorem rm136 (l : Launch) {Z a0} (hw : HW Z a0) (gO3 gO4 gO7 gO10 gO13 gO16 gO19 gO22 gO25 gO28 gO31 gO34 : Addr) (z0 : ClassId) (h0 : Heap) (O0 : Old Z Z.heap.size h0) (z1 : Sta Z Z.heap s0 s12 s7 (.ref gO3)) (VgO3 : Arv Z Z.heap gO3 z0 (.object s0) (11 : Int32) [(.ref gO4), (.ref gO7), (.ref gO10), (.ref gO13), (.ref gO16), (.ref gO19), (.ref gO22), (.ref gO25), (.ref gO28), (.ref gO31), (.ref gO34)] .null) :
    CtrN l Z mn11 jdk_17_method_21_code 2 (some (.object s0)) [] (⟨3, 1, 5, 42⟩ : Room) #[(.long 16)] h0 [] (fun v h => ∃ r1 : Addr, h0.size ≤ r1 ∧ Exa Z h r1 s0 ∧ Fld Z h r1 s0 s4 "J" (.long 16) ∧ Fld Z h r1 s0 "scale" "I" iZ ∧ Fld Z h r1 s0 s10 "I" iZ ∧ Fld Z h r1 s0 "intVal" s5 .null ∧ v = some (.ref r1)) := by
  refine CtrN.intro (L0 := #[.val (.long 16), .second]) (plainFor_of_name pn4) O0 (fun _ => rfl) ?_
  intro p e s m below meth c T0 hy hml hret hlk hnm W0
  refine o_lloadN W0 1 (hb hy d14_0) rfl rfl <| o_lconst W0 (v := 0) 2 (hb hy d14_1) (by decide) rfl <| o_lcmp W0 (v := 1) 3 (hb hy d14_2) (by decide) rfl <| o_ifN W0 6 (hb hy d14_3) (XT.i0_lt_f (by decide)) rfl <| o_lloadN W0 7 (hb hy d14_6) rfl rfl ?_
  refine o_getS W0 (w72 hw) Via.refl (z1.ext W0.ox) 10 (hb hy d14_7) rfl ?_
  intro T1 W1
  refine o_len W1 (VgO3.ext W1.ox) 11 (hb hy d14_10) rfl <| o_i2l W1 (v := 11) 12 (hb hy d14_11) (by decide) rfl <| o_lcmp W1 (v := 1) 13 (hb hy d14_12) (by decide) rfl <| o_ifY W1 23 (hb hy d14_13) (XT.i0_ge_t (by decide)) (by decide) rfl <| o_lloadN W1 24 (hb hy d14_23) rfl rfl <| o_ldcJ W1 (w87 hw) 27 (hb hy d14_24) rfl ?_
  refine o_lcmp W1 (v := 1) 28 (hb hy d14_27) (by decide) rfl <| o_ifN W1 31 (hb hy d14_28) (XT.i0_eq_f (by decide)) rfl ?_
  refine o_new W1 (w108 hw) (w109 hw) (w70 hw) tri 34 (hb hy d14_31) rfl (cells' := 1) (slots' := 5) rfl rfl (by decide) (by decide) ?_
  intro b2 T2 h2 W2 E2 ge2 gz2 gb2 A2 D2
  have Fb2_intCompact : Fld Z h2 b2 s0 s4 "J" (.long 0) := D2 (Or.inr (w86 hw)) (ty := .long) (by decide)
  have Fb2_scale : Fld Z h2 b2 s0 "scale" "I" iZ := D2 (Or.inr (w89 hw)) (ty := .int) (by decide)
  have Fb2_precision : Fld Z h2 b2 s0 s10 "I" iZ := D2 (Or.inl (w122 hw)) (ty := .int) (by decide)
  have Fb2_intVal : Fld Z h2 b2 s0 "intVal" s5 .null := D2 (Or.inr (w124 hw)) (ty := (.object s1)) (by decide)
  refine o_dup W2 35 (hb hy d14_34) rfl rfl ?_
  refine o_aconstNull W2 36 (hb hy d14_35) rfl ?_
  refine o_lloadN W2 37 (hb hy d14_36) rfl rfl <| o_iconst W2 (v := 0) 38 (hb hy d14_37) rfl rfl <| o_iconst W2 (v := 0) 39 (hb hy d14_38) rfl rfl ?_
  refine o_specialC W2 rfl (w110 hw) (w111 hw) (w113 hw) (by decide) (w70 hw) (rm135 l hw b2 h2 W2.old A2 Fb2_scale gz2 Fb2_precision Fb2_intCompact Fb2_intVal) 1 1 5 (by decide) (by rw [hml]; rfl) (lenOf pd16 rfl) [(.ref b2)] rfl rfl 42 (hb hy d14_39) rfl rfl rfl (allS ⟨gz2, (Or.inr gb2)⟩ all0) tri ?_
  intro v3 T3 h3 lo3 W3 K3 q3
  obtain ⟨P3_0, P3_1, P3_2, P3_3, rfl⟩ := q3.2.2
  show Gl _ _ _ _ _ _ _ _ [(.ref b2)]
  have c4 := (A2.keep K3)
  exact o_retA W3 hlk (v := (.ref b2)) hret rfl rfl (hb hy d14_42) (by decide) (by decide) ⟨b2, gb2, c4, P3_2, P3_0, P3_1, P3_3, rfl⟩
theorem rm137 (l : Launch) {Z a0} (hw : HW Z a0)  (h0 : Heap) (O0 : Old Z Z.heap.size h0) :
    CtrN l Z mn24 jdk_29_method_61_code 2 (some .long) [] (⟨0, 0, 0, 0⟩ : Room) #[(.long 16)] h0 [] (fun v h => v = some (.long 16)) := by
  refine CtrN.intro (L0 := #[.val (.long 16), .second]) (Jvm.Free.JP.mathPlain rfl (by decide +kernel)) O0 (fun _ => rfl) ?_
  intro p e s m below meth c T0 hy hml hret hlk hnm W0
  refine o_lloadN W0 1 (hb hy d29_0) rfl rfl <| o_lconst W0 (v := 0) 2 (hb hy d29_1) (by decide) rfl <| o_lcmp W0 (v := 1) 3 (hb hy d29_2) (by decide) rfl <| o_ifY W0 11 (hb hy d29_3) (XT.i0_ge_t (by decide)) (by decide) rfl <| o_lloadN W0 12 (hb hy d29_11) rfl rfl ?_
  exact o_retJ W0 hlk hret (hb hy d29_12) (by decide) (by decide) rfl
theorem rm138 (l : Launch) {Z a0} (hw : HW Z a0) (y1 : Int64) (h0 : Heap) (O0 : Old Z Z.heap.size h0) (hc1 : ¬ ((lcmpW y1 (0 : Int64)) < (0 : Int32))) (hc4 : (lcmpW (((y1 ||| (16 : Int64)).toUInt64 >>> ((31 : Int32) &&& 0x3f).toInt64.toUInt64).toInt64) (0 : Int64)) = (0 : Int32)) :
    CtrN l Z mn25 jdk_17_method_156_code 10 (some .long) [] (⟨1, 0, 0, 13⟩ : Room) #[(.long y1), (.long 16)] h0 [] (fun v h => v = some (.long (y1 * (16 : Int64)))) := by
  refine CtrN.intro (L0 := #[.val (.long y1), .second, .val (.long 16), .second, un, un, un, un, un, un]) (plainFor_of_name pn4) O0 (fun _ => rfl) ?_
  intro p e s m below meth c T0 hy hml hret hlk hnm W0
  refine o_lloadN W0 1 (hb hy d28_0) rfl rfl <| o_lloadN W0 2 (hb hy d28_1) rfl rfl <| o_lmul W0 (v := (y1 * (16 : Int64))) 3 (hb hy d28_2) rfl rfl <| o_lstore W0 (L' := #[.val (.long y1), .second, .val (.long 16), .second, .val (.long (y1 * (16 : Int64))), .second, un, un, un, un]) 5 (hb hy d28_3) rfl rfl <| o_lloadN W0 6 (hb hy d28_5) rfl rfl ?_
  refine o_staticC W0 (w141 hw) (w142 hw) (w23 hw) (w143 hw) (by decide) (rm28 l hw y1 h0 W0.old hc1) 0 0 0 (by decide) (by rw [hml]; rfl) (lenOf pd22 rfl) [] rfl rfl 9 (hb hy d28_6) rfl rfl rfl all0 tri ?_
  intro v2 T2 h2 lo2 W2 K2 q2
  obtain rfl := q2.2.2
  show Gl _ _ _ _ _ _ _ _ [(.long y1)]
  refine o_lstore W2 (L' := #[.val (.long y1), .second, .val (.long 16), .second, .val (.long (y1 * (16 : Int64))), .second, .val (.long y1), .second, un, un]) 11 (hb hy d28_9) rfl rfl <| o_lloadN W2 12 (hb hy d28_11) rfl rfl ?_
  refine o_staticC W2 (w141 hw) (w142 hw) (w23 hw) (w143 hw) (by decide) (rm137 l hw  h2 W2.old ) 0 0 0 (by decide) (by rw [hml]; rfl) (lenOf pd22 rfl) [] rfl rfl 15 (hb hy d28_12) rfl rfl rfl all0 tri ?_
  intro v3 T3 h3 lo3 W3 K3 q3
  obtain rfl := q3.2.2
  show Gl _ _ _ _ _ _ _ _ [(.long 16)]
  refine o_lstore W3 (L' := #[.val (.long y1), .second, .val (.long 16), .second, .val (.long (y1 * (16 : Int64))), .second, .val (.long y1), .second, .val (.long 16), .second]) 17 (hb hy d28_15) rfl rfl <| o_lload W3 19 (hb hy d28_17) rfl rfl <| o_lload W3 21 (hb hy d28_19) rfl rfl <| o_lor W3 (v := (y1 ||| (16 : Int64))) 22 (hb hy d28_21) rfl rfl <| o_bipush W3 (v := 31) 24 (hb hy d28_22) (by decide) rfl <| o_lushr W3 (v := (((y1 ||| (16 : Int64)).toUInt64 >>> ((31 : Int32) &&& 0x3f).toInt64.toUInt64).toInt64)) 25 (hb hy d28_24) rfl rfl ?_
  refine o_lconst W3 (v := 0) 26 (hb hy d28_25) (by decide) rfl <| o_lcmp W3 (v := (lcmpW (((y1 ||| (16 : Int64)).toUInt64 >>> ((31 : Int32) &&& 0x3f).toInt64.toUInt64).toInt64) (0 : Int64))) 27 (hb hy d28_26) rfl rfl <| o_ifY W3 45 (hb hy d28_27) (XT.i0_eq_t hc4) (by decide) rfl <| o_lload W3 47 (hb hy d28_45) rfl rfl ?_
  exact o_retJ W3 hlk hret (hb hy d28_47) (by decide) (by decide) rfl
theorem rm139 (l : Launch) {Z a0} (hw : HW Z a0) (y1 : Int64) (h0 : Heap) (O0 : Old Z Z.heap.size h0) (hc1 : ¬ ((lcmpW y1 (0 : Int64)) < (0 : Int32))) (hc2 : (lcmpW (((y1 ||| (16 : Int64)).toUInt64 >>> ((31 : Int32) &&& 0x3f).toInt64.toUInt64).toInt64) (0 : Int64)) = (0 : Int32)) (hc4 : ¬ ((lcmpW (y1 * (16 : Int64)) (-9223372036854775808 : Int64)) = (0 : Int32))) (hc5 : ¬ ((lcmpW (y1 * (16 : Int64)) (0 : Int64)) = (0 : Int32))) :
    CtrN l Z mn26 jdk_17_method_157_code 7 (some (.object s0)) [] (⟨4, 1, 5, 56⟩ : Room) #[(.long y1), (.long 16), (.int 9)] h0 [] (fun v h => ∃ r1 : Addr, h0.size ≤ r1 ∧ Exa Z h r1 s0 ∧ Fld Z h r1 s0 s4 "J" (.long (y1 * (16 : Int64))) ∧ Fld Z h r1 s0 "scale" "I" (.int 9) ∧ Fld Z h r1 s0 s10 "I" iZ ∧ Fld Z h r1 s0 "intVal" s5 .null ∧ v = some (.ref r1)) := by
  refine CtrN.intro (L0 := #[.val (.long y1), .second, .val (.long 16), .second, vi 9, un, un]) (plainFor_of_name pn4) O0 (fun _ => rfl) ?_
  intro p e s m below meth c T0 hy hml hret hlk hnm W0
  refine o_lloadN W0 1 (hb hy d27_0) rfl rfl <| o_lloadN W0 2 (hb hy d27_1) rfl rfl ?_
  refine o_staticC W0 (w138 hw) (w139 hw) (w70 hw) (w140 hw) (by decide) (rm138 l hw y1 h0 W0.old hc1 hc2) 0 0 0 (by decide) (by rw [hml]; rfl) (lenOf pd15 rfl) [] rfl rfl 5 (hb hy d27_2) rfl rfl rfl all0 tri ?_
  intro v3 T3 h3 lo3 W3 K3 q3
  obtain rfl := q3.2.2
  show Gl _ _ _ _ _ _ _ _ [(.long (y1 * (16 : Int64)))]
  refine o_lstore W3 (L' := #[.val (.long y1), .second, .val (.long 16), .second, vi 9, .val (.long (y1 * (16 : Int64))), .second]) 7 (hb hy d27_5) rfl rfl <| o_lload W3 9 (hb hy d27_7) rfl rfl <| o_ldcJ W3 (w87 hw) 12 (hb hy d27_9) rfl <| o_lcmp W3 (v := (lcmpW (y1 * (16 : Int64)) (-9223372036854775808 : Int64))) 13 (hb hy d27_12) rfl rfl <| o_ifN W3 16 (hb hy d27_13) (XT.i0_eq_f hc4) rfl <| o_lload W3 18 (hb hy d27_16) rfl rfl ?_
  refine o_iload W3 20 (hb hy d27_18) rfl rfl ?_
  refine o_staticC W3 (w107 hw) (w74 hw) (w70 hw) (w75 hw) (by decide) (rm21 l hw (y1 * (16 : Int64)) h3 W3.old hc5 hc4) 0 1 5 (by decide) (by rw [hml]; rfl) (lenOf pd13 rfl) [] rfl rfl 23 (hb hy d27_20) rfl rfl rfl all0 tri ?_
  intro v6 T6 h6 lo6 W6 K6 q6
  obtain ⟨r1_6, P6_0, P6_1, P6_2, P6_3, P6_4, P6_5, rfl⟩ := q6.2.2
  show Gl _ _ _ _ _ _ _ _ [(.ref r1_6)]
  exact o_retA W6 hlk (v := (.ref r1_6)) hret rfl rfl (hb hy d27_23) (by decide) (by decide) ⟨r1_6, (Nat.le_trans W3.keep.1 P6_0), P6_1, P6_2, P6_3, P6_4, P6_5, rfl⟩
theorem rm140 (l : Launch) {Z a0} (hw : HW Z a0) (a1 a2 : Addr) (y1 : Int64) (h0 : Heap) (O0 : Old Z Z.heap.size h0) (z0 : Fld Z h0 a1 s0 "scale" "I" (.int 9)) (z1 : Fld Z h0 a2 s0 "scale" "I" iZ) (z2 : Exa Z h0 a1 s0) (z3 : Fld Z h0 a1 s0 s4 "J" (.long y1)) (hc6 : ¬ ((lcmpW y1 (-9223372036854775808 : Int64)) = (0 : Int32))) (z4 : Fld Z h0 a2 s0 s4 "J" (.long 16)) (hc11 : ¬ ((lcmpW y1 (0 : Int64)) < (0 : Int32))) (hc12 : (lcmpW (((y1 ||| (16 : Int64)).toUInt64 >>> ((31 : Int32) &&& 0x3f).toInt64.toUInt64).toInt64) (0 : Int64)) = (0 : Int32)) (hc13 : ¬ ((lcmpW (y1 * (16 : Int64)) (-9223372036854775808 : Int64)) = (0 : Int32))) (hc14 : ¬ ((lcmpW (y1 * (16 : Int64)) (0 : Int64)) = (0 : Int32))) :
    CtrN l Z mn27 jdk_17_method_31_code 3 (some (.object s0)) [] (⟨5, 1, 5, 74⟩ : Room) #[(.ref a1), (.ref a2)] h0 [] (fun v h => ∃ r1 : Addr, h0.size ≤ r1 ∧ Exa Z h r1 s0 ∧ Fld Z h r1 s0 s4 "J" (.long (y1 * (16 : Int64))) ∧ Fld Z h r1 s0 "scale" "I" (.int 9) ∧ Fld Z h r1 s0 s10 "I" iZ ∧ Fld Z h r1 s0 "intVal" s5 .null ∧ v = some (.ref r1)) := by
  refine CtrN.intro (L0 := #[vr a1, vr a2, un]) (plainFor_of_name pn4) O0 (fun _ => rfl) ?_
  intro p e s m below meth c T0 hy hml hret hlk hnm W0
  refine o_aloadN W0 1 (hb hy d25_0) rfl rfl rfl <| o_aloadN W0 2 (hb hy d25_1) rfl rfl rfl ?_
  refine o_getF W0 (w88 hw) Via.refl z0 5 (hb hy d25_2) rfl ?_
  intro T1 W1
  refine o_i2l W1 (v := 9) 6 (hb hy d25_5) (by decide) rfl <| o_aloadN W1 7 (hb hy d25_6) rfl rfl rfl ?_
  refine o_getF W1 (w88 hw) Via.refl z1 10 (hb hy d25_7) rfl ?_
  intro T2 W2
  refine o_i2l W2 (v := 0) 11 (hb hy d25_10) (by decide) rfl <| o_ladd W2 (v := 9) 12 (hb hy d25_11) (by decide) rfl ?_
  refine o_privateC W2 (w130 hw) (w131 hw) (w133 hw) (w132 hw) (w134 hw) (by decide) z2 (w70 hw) (rm27 l hw a1 h0 W2.old ) 0 0 0 (by decide) (by rw [hml]; rfl) (lenOf pd21 rfl) [] rfl rfl 15 (hb hy d25_12) rfl rfl rfl all0 tri ?_
  intro v3 T3 h3 lo3 W3 K3 q3
  obtain rfl := q3.2.2
  show Gl _ _ _ _ _ _ _ _ [(.int 9)]
  refine o_istoreN W3 (L' := #[vr a1, vr a2, vi 9]) 16 (hb hy d25_15) rfl rfl <| o_aloadN W3 17 (hb hy d25_16) rfl rfl rfl ?_
  have c4 := (z3.keep K3 nin0)
  refine o_getF W3 (w85 hw) Via.refl c4 20 (hb hy d25_17) rfl ?_
  intro T5 W5
  refine o_ldcJ W5 (w87 hw) 23 (hb hy d25_20) rfl <| o_lcmp W5 (v := (lcmpW y1 (-9223372036854775808 : Int64))) 24 (hb hy d25_23) rfl rfl <| o_ifN W5 27 (hb hy d25_24) (XT.i0_eq_f hc6) rfl <| o_aloadN W5 28 (hb hy d25_27) rfl rfl rfl ?_
  have c7 := (z4.keep K3 nin0)
  refine o_getF W5 (w85 hw) Via.refl c7 31 (hb hy d25_28) rfl ?_
  intro T8 W8
  refine o_ldcJ W8 (w87 hw) 34 (hb hy d25_31) rfl <| o_lcmp W8 (v := 1) 35 (hb hy d25_34) (by decide) rfl <| o_ifN W8 38 (hb hy d25_35) (XT.i0_eq_f (by decide)) rfl <| o_aloadN W8 39 (hb hy d25_38) rfl rfl rfl ?_
  refine o_getF W8 (w85 hw) Via.refl c4 42 (hb hy d25_39) rfl ?_
  intro T9 W9
  refine o_aloadN W9 43 (hb hy d25_42) rfl rfl rfl ?_
  refine o_getF W9 (w85 hw) Via.refl c7 46 (hb hy d25_43) rfl ?_
  intro T10 W10
  refine o_iloadN W10 47 (hb hy d25_46) rfl rfl ?_
  refine o_staticC W10 (w135 hw) (w136 hw) (w70 hw) (w137 hw) (by decide) (rm139 l hw y1 h3 W10.old hc11 hc12 hc13 hc14) 0 1 5 (by decide) (by rw [hml]; rfl) (lenOf pd17 rfl) [] rfl rfl 50 (hb hy d25_47) rfl rfl rfl all0 tri ?_
  intro v15 T15 h15 lo15 W15 K15 q15
  obtain ⟨r1_15, P15_0, P15_1, P15_2, P15_3, P15_4, P15_5, rfl⟩ := q15.2.2
  show Gl _ _ _ _ _ _ _ _ [(.ref r1_15)]
  exact o_retA W15 hlk (v := (.ref r1_15)) hret rfl rfl (hb hy d25_50) (by decide) (by decide) ⟨r1_15, (Nat.le_trans W10.keep.1 P15_0), P15_1, P15_2, P15_3, P15_4, P15_5, rfl⟩
theorem rm141 (l : Launch) {Z a0} (hw : HW Z a0) (x1 : Int32) (h0 : Heap) (O0 : Old Z Z.heap.size h0) (hc1 : (0 : Int32) < x1) (hc2 : x1 < (65536 : Int32)) (hc3 : x1 < (256 : Int32)) (hc4 : ¬ (x1 < (16 : Int32))) (hc5 : ((x1.toUInt32 >>> ((4 : Int32) &&& 31).toUInt32).toInt32) < (4 : Int32)) :
    CtrN l Z mn46 jdk_33_method_47_code 2 (some .int) [] (⟨0, 0, 0, 0⟩ : Room) #[(.int x1)] h0 [] (fun v h => v = some (.int ((27 : Int32) - ((((x1.toUInt32 >>> ((4 : Int32) &&& 31).toUInt32).toInt32).toUInt32 >>> ((1 : Int32) &&& 31).toUInt32).toInt32)))) := by
  refine CtrN.intro (L0 := #[vi x1, un]) (plainFor_of_name pn8) O0 (fun _ => rfl) ?_
  intro p e s m below meth c T0 hy hml hret hlk hnm W0
  refine o_iloadN W0 1 (hb hy d51_0) rfl rfl <| o_ifY W0 15 (hb hy d51_1) (XT.i0_gt_t hc1) (by decide) rfl <| o_bipush W0 (v := 31) 17 (hb hy d51_15) (by decide) rfl <| o_istoreN W0 (L' := #[vi x1, vi 31]) 18 (hb hy d51_17) rfl rfl <| o_iloadN W0 19 (hb hy d51_18) rfl rfl ?_
  refine o_ldcWI W0 (w273 hw) 22 (hb hy d51_19) rfl ?_
  refine o_icmpY W0 33 (hb hy d51_22) (XT.ii_lt_t hc2) (by decide) rfl <| o_iloadN W0 34 (hb hy d51_33) rfl rfl <| o_sipush W0 (v := 256) 37 (hb hy d51_34) (by decide) rfl <| o_icmpY W0 48 (hb hy d51_37) (XT.ii_lt_t hc3) (by decide) rfl <| o_iloadN W0 49 (hb hy d51_48) rfl rfl <| o_bipush W0 (v := 16) 51 (hb hy d51_49) (by decide) rfl ?_
  refine o_icmpN W0 54 (hb hy d51_51) (XT.ii_lt_f hc4) rfl <| o_iinc W0 (v := 27) (L' := #[vi x1, vi 27]) 57 (hb hy d51_54) rfl (by decide) rfl rfl <| o_iloadN W0 58 (hb hy d51_57) rfl rfl <| o_iconst W0 (v := 4) 59 (hb hy d51_58) rfl rfl <| o_iushr W0 (v := ((x1.toUInt32 >>> ((4 : Int32) &&& 31).toUInt32).toInt32)) 60 (hb hy d51_59) rfl rfl <| o_istoreN W0 (L' := #[.val (.int ((x1.toUInt32 >>> ((4 : Int32) &&& 31).toUInt32).toInt32)), vi 27]) 61 (hb hy d51_60) rfl rfl ?_
  refine o_iloadN W0 62 (hb hy d51_61) rfl rfl <| o_iconst W0 (v := 4) 63 (hb hy d51_62) rfl rfl <| o_icmpY W0 73 (hb hy d51_63) (XT.ii_lt_t hc5) (by decide) rfl <| o_iloadN W0 74 (hb hy d51_73) rfl rfl <| o_iloadN W0 75 (hb hy d51_74) rfl rfl <| o_iconst W0 (v := 1) 76 (hb hy d51_75) rfl rfl ?_
  refine o_iushr W0 (v := ((((x1.toUInt32 >>> ((4 : Int32) &&& 31).toUInt32).toInt32).toUInt32 >>> ((1 : Int32) &&& 31).toUInt32).toInt32)) 77 (hb hy d51_76) rfl rfl <| o_isub W0 (v := ((27 : Int32) - ((((x1.toUInt32 >>> ((4 : Int32) &&& 31).toUInt32).toInt32).toUInt32 >>> ((1 : Int32) &&& 31).toUInt32).toInt32))) 78 (hb hy d51_77) rfl rfl ?_
  exact o_retI W0 hlk hret (hb hy d51_78) (by decide) (by decide) rfl
theorem rm142 (l : Launch) {Z a0} (hw : HW Z a0) (x1 : Int32) (h0 : Heap) (O0 : Old Z Z.heap.size h0) (hc1 : (0 : Int32) < x1) (hc2 : x1 < (65536 : Int32)) (hc3 : x1 < (256 : Int32)) (hc4 : ¬ (x1 < (16 : Int32))) (hc5 : ((x1.toUInt32 >>> ((4 : Int32) &&& 31).toUInt32).toInt32) < (4 : Int32)) :
    CtrN l Z mn47 jdk_2097_method_74_code 1 (some .int) [] (⟨1, 0, 0, 14⟩ : Room) #[(.int x1)] h0 [] (fun v h => v = some (.int ((32 : Int32) - ((27 : Int32) - ((((x1.toUInt32 >>> ((4 : Int32) &&& 31).toUInt32).toInt32).toUInt32 >>> ((1 : Int32) &&& 31).toUInt32).toInt32))))) := by
  refine CtrN.intro (L0 := #[vi x1]) (plainFor_of_name pn6) O0 (fun _ => rfl) ?_
  intro p e s m below meth c T0 hy hml hret hlk hnm W0
  refine o_bipush W0 (v := 32) 2 (hb hy d50_0) (by decide) rfl <| o_iloadN W0 3 (hb hy d50_2) rfl rfl ?_
  refine o_staticC W0 (w269 hw) (w270 hw) (w271 hw) (w272 hw) (by decide) (rm141 l hw x1 h0 W0.old hc1 hc2 hc3 hc4 hc5) 1 0 0 (by decide) (by rw [hml]; rfl) (lenOf pd36 rfl) [(.int 32)] rfl rfl 6 (hb hy d50_3) rfl rfl rfl all0 tri ?_
  intro v6 T6 h6 lo6 W6 K6 q6
  obtain rfl := q6.2.2
  show Gl _ _ _ _ _ _ _ _ [(.int ((27 : Int32) - ((((x1.toUInt32 >>> ((4 : Int32) &&& 31).toUInt32).toInt32).toUInt32 >>> ((1 : Int32) &&& 31).toUInt32).toInt32))), (.int 32)]
  refine o_isub W6 (v := ((32 : Int32) - ((27 : Int32) - ((((x1.toUInt32 >>> ((4 : Int32) &&& 31).toUInt32).toInt32).toUInt32 >>> ((1 : Int32) &&& 31).toUInt32).toInt32)))) 7 (hb hy d50_6) rfl rfl ?_
  exact o_retI W6 hlk hret (hb hy d50_7) (by decide) (by decide) rfl
theorem rm143 (l : Launch) {Z a0} (hw : HW Z a0) (a1 a2 : Addr) (z0 : ClassId) (x1 : Int32) (h0 : Heap) (O0 : Old Z Z.heap.size h0) (z1 : Fld Z h0 a1 s1 s8 "I" iZ) (z2 : Fld Z h0 a1 s1 "mag" "[I" (.ref a2)) (z3 : Arv Z h0 a2 z0 .int 1 [(.int x1)] iZ) (hc4 : (0 : Int32) < x1) (hc5 : x1 < (65536 : Int32)) (hc6 : x1 < (256 : Int32)) (hc7 : ¬ (x1 < (16 : Int32))) (hc8 : ((x1.toUInt32 >>> ((4 : Int32) &&& 31).toUInt32).toInt32) < (4 : Int32)) (z4 : Fld Z h0 a1 s1 "signum" "I" (.int 1)) (z5 : Exa Z h0 a1 s1) (z6 : Z.heap.size ≤ a1) :
    CtrN l Z mn48 jdk_2097_method_118_code 7 (some .int) [] (⟨2, 0, 0, 27⟩ : Room) #[(.ref a1)] h0 [a1] (fun v h => Fld Z h a1 s1 s8 "I" (.int (((0 : Int32) + ((32 : Int32) - ((27 : Int32) - ((((x1.toUInt32 >>> ((4 : Int32) &&& 31).toUInt32).toInt32).toUInt32 >>> ((1 : Int32) &&& 31).toUInt32).toInt32)))) + 1)) ∧ Fld Z h a1 s1 "mag" "[I" (.ref a2) ∧ Fld Z h a1 s1 "signum" "I" (.int 1) ∧ v = some (.int ((0 : Int32) + ((32 : Int32) - ((27 : Int32) - ((((x1.toUInt32 >>> ((4 : Int32) &&& 31).toUInt32).toInt32).toUInt32 >>> ((1 : Int32) &&& 31).toUInt32).toInt32)))))) := by
  refine CtrN.intro (L0 := #[vr a1, un, un, un, un, un, un]) (plainFor_of_name pn6) O0 (fun _ => rfl) ?_
  intro p e s m below meth c T0 hy hml hret hlk hnm W0
  refine o_aloadN W0 1 (hb hy d49_0) rfl rfl rfl ?_
  refine o_getF W0 (w264 hw) Via.refl z1 4 (hb hy d49_1) rfl ?_
  intro T1 W1
  refine o_iconst W1 (v := 1) 5 (hb hy d49_4) rfl rfl <| o_isub W1 (v := (-1 : Int32)) 6 (hb hy d49_5) (by decide) rfl <| o_istoreN W1 (L' := #[vr a1, vi (-1 : Int32), un, un, un, un, un]) 7 (hb hy d49_6) rfl rfl <| o_iloadN W1 8 (hb hy d49_7) rfl rfl <| o_iconst W1 (v := (-1 : Int32)) 9 (hb hy d49_8) (by decide) rfl <| o_icmpN W1 12 (hb hy d49_9) (XT.ii_ne_f (by decide)) rfl ?_
  refine o_aloadN W1 13 (hb hy d49_12) rfl rfl rfl ?_
  refine o_getF W1 (w183 hw) Via.refl z2 16 (hb hy d49_13) rfl ?_
  intro T2 W2
  refine o_astoreN W2 (L' := #[vr a1, vi (-1 : Int32), vr a2, un, un, un, un]) 17 (hb hy d49_16) rfl rfl rfl <| o_aloadN W2 18 (hb hy d49_17) rfl rfl rfl <| o_len W2 z3 19 (hb hy d49_18) rfl <| o_istoreN W2 (L' := #[vr a1, vi (-1 : Int32), vr a2, vi 1, un, un, un]) 20 (hb hy d49_19) rfl rfl <| o_iloadN W2 21 (hb hy d49_20) rfl rfl <| o_ifY W2 29 (hb hy d49_21) (XT.i0_ne_t (by decide)) (by decide) rfl ?_
  refine o_iloadN W2 30 (hb hy d49_29) rfl rfl <| o_iconst W2 (v := 1) 31 (hb hy d49_30) rfl rfl <| o_isub W2 (v := 0) 32 (hb hy d49_31) (by decide) rfl <| o_iconst W2 (v := 5) 33 (hb hy d49_32) rfl rfl <| o_ishl W2 (v := 0) 34 (hb hy d49_33) (by decide) rfl <| o_aloadN W2 35 (hb hy d49_34) rfl rfl rfl ?_
  refine o_getF W2 (w183 hw) Via.refl z2 38 (hb hy d49_35) rfl ?_
  intro T3 W3
  refine o_iconst W3 (v := 0) 39 (hb hy d49_38) rfl rfl <| o_iaload W3 z3 (x := x1) (i := 0) (by decide) (by decide) (by decide) rfl 40 (hb hy d49_39) rfl ?_
  refine o_staticC W3 (w266 hw) (w267 hw) (w169 hw) (w268 hw) (by decide) (rm142 l hw x1 h0 W3.old hc4 hc5 hc6 hc7 hc8) 1 0 0 (by decide) (by rw [hml]; rfl) (lenOf pd36 rfl) [iZ] rfl rfl 43 (hb hy d49_40) rfl rfl rfl all0 tri ?_
  intro v9 T9 h9 lo9 W9 K9 q9
  obtain rfl := q9.2.2
  show Gl _ _ _ _ _ _ _ _ [(.int ((32 : Int32) - ((27 : Int32) - ((((x1.toUInt32 >>> ((4 : Int32) &&& 31).toUInt32).toInt32).toUInt32 >>> ((1 : Int32) &&& 31).toUInt32).toInt32)))), iZ]
  refine o_iadd W9 (v := ((0 : Int32) + ((32 : Int32) - ((27 : Int32) - ((((x1.toUInt32 >>> ((4 : Int32) &&& 31).toUInt32).toInt32).toUInt32 >>> ((1 : Int32) &&& 31).toUInt32).toInt32))))) 44 (hb hy d49_43) rfl rfl <| o_istore W9 (L' := #[vr a1, vi (-1 : Int32), vr a2, vi 1, .val (.int ((0 : Int32) + ((32 : Int32) - ((27 : Int32) - ((((x1.toUInt32 >>> ((4 : Int32) &&& 31).toUInt32).toInt32).toUInt32 >>> ((1 : Int32) &&& 31).toUInt32).toInt32))))), un, un]) 46 (hb hy d49_44) rfl rfl <| o_aloadN W9 47 (hb hy d49_46) rfl rfl rfl ?_
  have c10 := (z4.keep K9 nin0)
  refine o_getF W9 (w180 hw) Via.refl c10 50 (hb hy d49_47) rfl ?_
  intro T11 W11
  refine o_ifY W11 128 (hb hy d49_50) (XT.i0_ge_t (by decide)) (by decide) rfl <| o_iload W11 130 (hb hy d49_128) rfl rfl <| o_istoreN W11 (L' := #[vr a1, .val (.int ((0 : Int32) + ((32 : Int32) - ((27 : Int32) - ((((x1.toUInt32 >>> ((4 : Int32) &&& 31).toUInt32).toInt32).toUInt32 >>> ((1 : Int32) &&& 31).toUInt32).toInt32))))), vr a2, vi 1, .val (.int ((0 : Int32) + ((32 : Int32) - ((27 : Int32) - ((((x1.toUInt32 >>> ((4 : Int32) &&& 31).toUInt32).toInt32).toUInt32 >>> ((1 : Int32) &&& 31).toUInt32).toInt32))))), un, un]) 131 (hb hy d49_130) rfl rfl <| o_aloadN W11 132 (hb hy d49_131) rfl rfl rfl <| o_iloadN W11 133 (hb hy d49_132) rfl rfl <| o_iconst W11 (v := 1) 134 (hb hy d49_133) rfl rfl ?_
  refine o_iadd W11 (v := (((0 : Int32) + ((32 : Int32) - ((27 : Int32) - ((((x1.toUInt32 >>> ((4 : Int32) &&& 31).toUInt32).toInt32).toUInt32 >>> ((1 : Int32) &&& 31).toUInt32).toInt32)))) + 1)) 135 (hb hy d49_134) rfl rfl ?_
  have c12 := (z5.keep K9)
  have c13 := (z1.keep K9 nin0)
  refine o_putF W11 (w264 hw) Via.refl c13 c12 (Or.inl (w265 hw)) (w173 hw) (ty := .int) (v' := (.int (((0 : Int32) + ((32 : Int32) - ((27 : Int32) - ((((x1.toUInt32 >>> ((4 : Int32) &&& 31).toUInt32).toInt32).toUInt32 >>> ((1 : Int32) &&& 31).toUInt32).toInt32)))) + 1))) (by decide) rfl rfl z6 m0 tri 138 (hb hy d49_135) rfl ?_
  intro T14 h14 lo14 W14 R14
  have F14 := c13.same R14
  refine o_iloadN W14 139 (hb hy d49_138) rfl rfl ?_
  have c15 := (c10.other R14 (Or.inr (slot_ne (Or.inr (w181 hw)) (Or.inl (w265 hw)) (by decide) (t := .int) (t' := .int) (by decide) (by decide))))
  have c16 := ((z2.keep K9 nin0).other R14 (Or.inr (slot_ne (Or.inr (w184 hw)) (Or.inl (w265 hw)) (by decide) (t := (.array .int)) (t' := .int) (by decide) (by decide))))
  have c17 := (c12.wr R14)
  exact o_retI W14 hlk hret (hb hy d49_139) (by decide) (by decide) ⟨F14, c16, c15, rfl⟩
theorem rm144 (l : Launch) {Z a0} (hw : HW Z a0) (gO88 gO89 gO90 gO91 : Addr) (z0 z1 : ClassId) (a1 : Addr) (y1 : Int64) (h0 : Heap) (O0 : Old Z Z.heap.size h0) (z2 : Exa Z h0 a1 s0) (z3 : Fld Z h0 a1 s0 "scale" "I" (.int 9)) (z4 : Fld Z h0 a1 s0 "intVal" s5 .null) (z5 : Fld Z h0 a1 s0 s4 "J" (.long y1)) (hc2 : ¬ ((lcmpW y1 (0 : Int64)) = (0 : Int32))) (hc3 : (0 : Int32) < (lcmpW y1 (0 : Int64))) (hc4 : (0 : Int32) < (lcmpW y1 (16 : Int64))) (hc5 : ¬ ((lcmpW y1 (0 : Int64)) < (0 : Int32))) (hc6 : ¬ ((((y1.toUInt64 >>> ((32 : Int32) &&& 0x3f).toInt64.toUInt64).toInt64).toInt32) = (0 : Int32))) (z6 : Sta Z Z.heap s2 s15 s5 (.ref gO88)) (z7 : Fld Z Z.heap gO88 s1 "mag" "[I" (.ref gO89)) (VgO89 : Arv Z Z.heap gO89 z0 .int (1 : Int32) [(.int 1000000000)] iZ) (hc9 : (lcmpW (((((y1.toUInt64 >>> ((32 : Int32) &&& 0x3f).toInt64.toUInt64).toInt64).toInt32).toInt64) &&& (4294967295 : Int64)) (((1000000000 : Int32).toInt64) &&& (4294967295 : Int64))) < (0 : Int32)) (hc10 : ¬ ((lcmpW (((((((y1.toUInt64 >>> ((32 : Int32) &&& 0x3f).toInt64.toUInt64).toInt64).toInt32).toInt64) &&& (4294967295 : Int64)) <<< ((32 : Int32) &&& 0x3f).toInt64) ||| (((y1.toInt32).toInt64) &&& (4294967295 : Int64))) (0 : Int64)) < (0 : Int32))) (hc11 : ¬ ((((((((((y1.toUInt64 >>> ((32 : Int32) &&& 0x3f).toInt64.toUInt64).toInt64).toInt32).toInt64) &&& (4294967295 : Int64)) <<< ((32 : Int32) &&& 0x3f).toInt64) ||| (((y1.toInt32).toInt64) &&& (4294967295 : Int64))) / (((1000000000 : Int32).toInt64) &&& (4294967295 : Int64))).toInt32) = (0 : Int32))) (hc12 : ((((((((((y1.toUInt64 >>> ((32 : Int32) &&& 0x3f).toInt64.toUInt64).toInt64).toInt32).toInt64) &&& (4294967295 : Int64)) <<< ((32 : Int32) &&& 0x3f).toInt64) ||| (((y1.toInt32).toInt64) &&& (4294967295 : Int64))) - (((((((((((y1.toUInt64 >>> ((32 : Int32) &&& 0x3f).toInt64.toUInt64).toInt64).toInt32).toInt64) &&& (4294967295 : Int64)) <<< ((32 : Int32) &&& 0x3f).toInt64) ||| (((y1.toInt32).toInt64) &&& (4294967295 : Int64))) / (((1000000000 : Int32).toInt64) &&& (4294967295 : Int64))).toInt32).toInt64) * (((1000000000 : Int32).toInt64) &&& (4294967295 : Int64)))).toInt32) % (1000000000 : Int32)) = (0 : Int32)) (z8 : Fld Z Z.heap gO88 s1 "signum" "I" (.int 1)) (z9 : Sta Z Z.heap s1 "ZERO" s5 (.ref gO90)) (XgO90 : Exa Z Z.heap gO90 s1) (hc14 : (0 : Int32) < (((((((((y1.toUInt64 >>> ((32 : Int32) &&& 0x3f).toInt64.toUInt64).toInt64).toInt32).toInt64) &&& (4294967295 : Int64)) <<< ((32 : Int32) &&& 0x3f).toInt64) ||| (((y1.toInt32).toInt64) &&& (4294967295 : Int64))) / (((1000000000 : Int32).toInt64) &&& (4294967295 : Int64))).toInt32)) (hc15 : (((((((((y1.toUInt64 >>> ((32 : Int32) &&& 0x3f).toInt64.toUInt64).toInt64).toInt32).toInt64) &&& (4294967295 : Int64)) <<< ((32 : Int32) &&& 0x3f).toInt64) ||| (((y1.toInt32).toInt64) &&& (4294967295 : Int64))) / (((1000000000 : Int32).toInt64) &&& (4294967295 : Int64))).toInt32) < (65536 : Int32)) (hc16 : (((((((((y1.toUInt64 >>> ((32 : Int32) &&& 0x3f).toInt64.toUInt64).toInt64).toInt32).toInt64) &&& (4294967295 : Int64)) <<< ((32 : Int32) &&& 0x3f).toInt64) ||| (((y1.toInt32).toInt64) &&& (4294967295 : Int64))) / (((1000000000 : Int32).toInt64) &&& (4294967295 : Int64))).toInt32) < (256 : Int32)) (hc17 : ¬ ((((((((((y1.toUInt64 >>> ((32 : Int32) &&& 0x3f).toInt64.toUInt64).toInt64).toInt32).toInt64) &&& (4294967295 : Int64)) <<< ((32 : Int32) &&& 0x3f).toInt64) ||| (((y1.toInt32).toInt64) &&& (4294967295 : Int64))) / (((1000000000 : Int32).toInt64) &&& (4294967295 : Int64))).toInt32) < (16 : Int32))) (hc18 : (((((((((((y1.toUInt64 >>> ((32 : Int32) &&& 0x3f).toInt64.toUInt64).toInt64).toInt32).toInt64) &&& (4294967295 : Int64)) <<< ((32 : Int32) &&& 0x3f).toInt64) ||| (((y1.toInt32).toInt64) &&& (4294967295 : Int64))) / (((1000000000 : Int32).toInt64) &&& (4294967295 : Int64))).toInt32).toUInt32 >>> ((4 : Int32) &&& 31).toUInt32).toInt32) < (4 : Int32)) (hc20 : ¬ ((63 : Int32) < ((0 : Int32) + ((32 : Int32) - ((27 : Int32) - (((((((((((((y1.toUInt64 >>> ((32 : Int32) &&& 0x3f).toInt64.toUInt64).toInt64).toInt32).toInt64) &&& (4294967295 : Int64)) <<< ((32 : Int32) &&& 0x3f).toInt64) ||| (((y1.toInt32).toInt64) &&& (4294967295 : Int64))) / (((1000000000 : Int32).toInt64) &&& (4294967295 : Int64))).toInt32).toUInt32 >>> ((4 : Int32) &&& 31).toUInt32).toInt32).toUInt32 >>> ((1 : Int32) &&& 31).toUInt32).toInt32)))))) (z10 : Fld Z Z.heap gO90 s1 "mag" "[I" (.ref gO91)) (VgO91 : Arv Z Z.heap gO91 z1 .int (0 : Int32) [] iZ) (z11 : Fld Z Z.heap gO90 s1 "signum" "I" iZ) (hc27 : ¬ ((lcmpW ((((0 : Int64) + (((((((((((y1.toUInt64 >>> ((32 : Int32) &&& 0x3f).toInt64.toUInt64).toInt64).toInt32).toInt64) &&& (4294967295 : Int64)) <<< ((32 : Int32) &&& 0x3f).toInt64) ||| (((y1.toInt32).toInt64) &&& (4294967295 : Int64))) / (((1000000000 : Int32).toInt64) &&& (4294967295 : Int64))).toInt32).toInt64) &&& (4294967295 : Int64))) ^^^ (((0 : Int64) + (((((((((((y1.toUInt64 >>> ((32 : Int32) &&& 0x3f).toInt64.toUInt64).toInt64).toInt32).toInt64) &&& (4294967295 : Int64)) <<< ((32 : Int32) &&& 0x3f).toInt64) ||| (((y1.toInt32).toInt64) &&& (4294967295 : Int64))) / (((1000000000 : Int32).toInt64) &&& (4294967295 : Int64))).toInt32).toInt64) &&& (4294967295 : Int64))) + (0 : Int64))) &&& ((0 : Int64) ^^^ (((0 : Int64) + (((((((((((y1.toUInt64 >>> ((32 : Int32) &&& 0x3f).toInt64.toUInt64).toInt64).toInt32).toInt64) &&& (4294967295 : Int64)) <<< ((32 : Int32) &&& 0x3f).toInt64) ||| (((y1.toInt32).toInt64) &&& (4294967295 : Int64))) / (((1000000000 : Int32).toInt64) &&& (4294967295 : Int64))).toInt32).toInt64) &&& (4294967295 : Int64))) + (0 : Int64)))) (0 : Int64)) < (0 : Int32))) (hc28 : ¬ ((lcmpW ((((0 : Int64) + (((((((((((y1.toUInt64 >>> ((32 : Int32) &&& 0x3f).toInt64.toUInt64).toInt64).toInt32).toInt64) &&& (4294967295 : Int64)) <<< ((32 : Int32) &&& 0x3f).toInt64) ||| (((y1.toInt32).toInt64) &&& (4294967295 : Int64))) / (((1000000000 : Int32).toInt64) &&& (4294967295 : Int64))).toInt32).toInt64) &&& (4294967295 : Int64))) + (0 : Int64)) ||| (0 : Int64)) (0 : Int64)) = (0 : Int32))) :
    CtrN l Z mn59 jdk_2316_method_48_code 3 (some (.object s2)) [] (⟨7, 14, 40, 118⟩ : Room) #[(.ref a1)] h0 [] (fun v h => ∃ r1 : Addr, h0.size ≤ r1 ∧ Exa Z h r1 s2 ∧ Fld Z h r1 s2 "seconds" "J" (.long (((0 : Int64) + (((((((((((y1.toUInt64 >>> ((32 : Int32) &&& 0x3f).toInt64.toUInt64).toInt64).toInt32).toInt64) &&& (4294967295 : Int64)) <<< ((32 : Int32) &&& 0x3f).toInt64) ||| (((y1.toInt32).toInt64) &&& (4294967295 : Int64))) / (((1000000000 : Int32).toInt64) &&& (4294967295 : Int64))).toInt32).toInt64) &&& (4294967295 : Int64))) + (0 : Int64))) ∧ Fld Z h r1 s2 "nanos" "I" iZ ∧ v = some (.ref r1)) := by
  refine CtrN.intro (L0 := #[vr a1, un, un]) (plainFor_of_name pn1) O0 (fun _ => rfl) ?_
  intro p e s m below meth c T0 hy hml hret hlk hnm W0
  refine o_aloadN W0 1 (hb hy d30_0) rfl rfl rfl <| o_bipush W0 (v := 9) 3 (hb hy d30_1) (by decide) rfl ?_
  refine o_virtualC W0 (w147 hw) (w148 hw) (o_nf W0 rfl (w150 hw)) (w150 hw) (w149 hw) (by decide) z2 (w151 hw) (w70 hw) (rm35 l hw a1 y1 h0 W0.old z3 z2 z4 z5) 0 1 5 (by decide) (by rw [hml]; rfl) (lenOf pd12 rfl) [] rfl rfl 6 (hb hy d30_3) rfl rfl rfl all0 tri ?_
  intro v1 T1 h1 lo1 W1 K1 q1
  obtain ⟨r1_1, P1_0, P1_1, P1_2, P1_3, P1_4, P1_5, rfl⟩ := q1.2.2
  show Gl _ _ _ _ _ _ _ _ [(.ref r1_1)]
  refine o_virtualC W1 (w152 hw) (w153 hw) (o_nf W1 rfl (w155 hw)) (w155 hw) (w154 hw) (by decide) P1_1 (w156 hw) (w70 hw) (rm108 l hw r1_1 y1 h1 W1.old P1_1 P1_3 P1_5 P1_2 hc2 hc3 hc4 hc5 hc6) 0 3 13 (by decide) (by rw [hml]; rfl) (lenOf pd26 rfl) [] rfl rfl 9 (hb hy d30_6) rfl rfl rfl all0 tri ?_
  intro v7 T7 h7 lo7 W7 K7 q7
  obtain ⟨r1_7, r2_7, r3_7, P7_0, P7_1, P7_2, P7_3, P7_4, P7_5, P7_6, rfl⟩ := q7.2.2
  show Gl _ _ _ _ _ _ _ _ [(.ref r1_7)]
  refine o_astoreN W7 (L' := #[vr a1, vr r1_7, un]) 10 (hb hy d30_9) rfl rfl rfl <| o_aloadN W7 11 (hb hy d30_10) rfl rfl rfl ?_
  refine o_getS W7 (w185 hw) Via.refl (z6.ext W7.ox) 14 (hb hy d30_11) rfl ?_
  intro T8 W8
  refine o_virtualC W8 (w186 hw) (w187 hw) (o_nf W8 rfl (w189 hw)) (w189 hw) (w188 hw) (by decide) P7_2 (w190 hw) (w169 hw) (rm124 l hw gO88 gO89 gO90 z0 r1_7 r2_7 r3_7 (((y1.toUInt64 >>> ((32 : Int32) &&& 0x3f).toInt64.toUInt64).toInt64).toInt32) (y1.toInt32) h7 W8.old z7 VgO89 P7_2 P7_4 P7_6 hc9 hc10 hc11 hc12 P7_3 z8 z9 XgO90) 0 13 38 (by decide) (by rw [hml]; rfl) (lenOf pd35 rfl) [] rfl rfl 17 (hb hy d30_14) rfl rfl rfl all0 tri ?_
  intro v13 T13 h13 lo13 W13 K13 q13
  obtain ⟨r1_13, r2_13, r3_13, r4_13, r5_13, P13_0, P13_1, P13_2, P13_3, P13_4, P13_5, P13_6, P13_7, P13_8, P13_9, rfl⟩ := q13.2.2
  show Gl _ _ _ _ _ _ _ _ [(.ref r1_13)]
  refine o_astoreN W13 (L' := #[vr a1, vr r1_7, vr r1_13]) 18 (hb hy d30_17) rfl rfl rfl <| o_aloadN W13 19 (hb hy d30_18) rfl rfl rfl <| o_iconst W13 (v := 0) 20 (hb hy d30_19) rfl rfl ?_
  refine o_aaload W13 P13_3 rfl (v := (.ref r2_13)) (i := 0) (by decide) (by decide) (by decide) rfl 21 (hb hy d30_20) rfl ?_
  refine o_virtualC W13 (w259 hw) (w260 hw) (o_nf W13 rfl (w262 hw)) (w262 hw) (w261 hw) (by decide) P13_5 (w263 hw) (w169 hw) (rm143 l hw r2_13 r3_13 r5_13 (((((((((y1.toUInt64 >>> ((32 : Int32) &&& 0x3f).toInt64.toUInt64).toInt64).toInt32).toInt64) &&& (4294967295 : Int64)) <<< ((32 : Int32) &&& 0x3f).toInt64) ||| (((y1.toInt32).toInt64) &&& (4294967295 : Int64))) / (((1000000000 : Int32).toInt64) &&& (4294967295 : Int64))).toInt32) h13 W13.old P13_8 P13_7 P13_9 hc14 hc15 hc16 hc17 hc18 P13_6 P13_5 (Nat.le_trans W8.zs P13_1)) 0 13 38 (by decide) (by rw [hml]; rfl) (lenOf pd9 rfl) [] rfl rfl 24 (hb hy d30_21) rfl rfl rfl (allS ⟨(Nat.le_trans W8.zs P13_1), (Or.inr (Nat.le_trans W8.keep.1 P13_1))⟩ all0) tri ?_
  intro v19 T19 h19 lo19 W19 K19 q19
  obtain ⟨P19_0, P19_1, P19_2, rfl⟩ := q19.2.2
  show Gl _ _ _ _ _ _ _ _ [(.int ((0 : Int32) + ((32 : Int32) - ((27 : Int32) - (((((((((((((y1.toUInt64 >>> ((32 : Int32) &&& 0x3f).toInt64.toUInt64).toInt64).toInt32).toInt64) &&& (4294967295 : Int64)) <<< ((32 : Int32) &&& 0x3f).toInt64) ||| (((y1.toInt32).toInt64) &&& (4294967295 : Int64))) / (((1000000000 : Int32).toInt64) &&& (4294967295 : Int64))).toInt32).toUInt32 >>> ((4 : Int32) &&& 31).toUInt32).toInt32).toUInt32 >>> ((1 : Int32) &&& 31).toUInt32).toInt32)))))]
  refine o_bipush W19 (v := 63) 26 (hb hy d30_24) (by decide) rfl <| o_icmpY W19 57 (hb hy d30_26) (XT.ii_le_t hc20) (by decide) rfl <| o_aloadN W19 58 (hb hy d30_57) rfl rfl rfl <| o_iconst W19 (v := 0) 59 (hb hy d30_58) rfl rfl ?_
  have c21 := (P13_5.keep K19)
  have c22 := (P13_3.keep K19 (ninS (Ne.symm (Exa.neArv P13_5 P13_3 (w173 hw))) nin0))
  refine o_aaload W19 c22 rfl (v := (.ref r2_13)) (i := 0) (by decide) (by decide) (by decide) rfl 60 (hb hy d30_59) rfl ?_
  have c23 := (P13_9.keep K19 (ninS (Ne.symm (Exa.neArv P13_5 P13_9 (w173 hw))) nin0))
  refine o_virtualC W19 (w274 hw) (w275 hw) (o_nf W19 rfl (w277 hw)) (w277 hw) (w276 hw) (by decide) c21 (w278 hw) (w169 hw) (rm61 l hw r2_13 r3_13 r5_13 (((((((((y1.toUInt64 >>> ((32 : Int32) &&& 0x3f).toInt64.toUInt64).toInt64).toInt32).toInt64) &&& (4294967295 : Int64)) <<< ((32 : Int32) &&& 0x3f).toInt64) ||| (((y1.toInt32).toInt64) &&& (4294967295 : Int64))) / (((1000000000 : Int32).toInt64) &&& (4294967295 : Int64))).toInt32) h19 W19.old c21 P19_1 c23 P19_2) 0 13 38 (by decide) (by rw [hml]; rfl) (lenOf pd7 rfl) [] rfl rfl 63 (hb hy d30_60) rfl rfl rfl all0 tri ?_
  intro v24 T24 h24 lo24 W24 K24 q24
  obtain rfl := q24.2.2
  show Gl _ _ _ _ _ _ _ _ [(.long ((0 : Int64) + (((((((((((y1.toUInt64 >>> ((32 : Int32) &&& 0x3f).toInt64.toUInt64).toInt64).toInt32).toInt64) &&& (4294967295 : Int64)) <<< ((32 : Int32) &&& 0x3f).toInt64) ||| (((y1.toInt32).toInt64) &&& (4294967295 : Int64))) / (((1000000000 : Int32).toInt64) &&& (4294967295 : Int64))).toInt32).toInt64) &&& (4294967295 : Int64))))]
  refine o_aloadN W24 64 (hb hy d30_63) rfl rfl rfl <| o_iconst W24 (v := 1) 65 (hb hy d30_64) rfl rfl ?_
  have c25 := (c22.keep K24 nin0)
  refine o_aaload W24 c25 rfl (v := (.ref gO90)) (i := 1) (by decide) (by decide) (by decide) rfl 66 (hb hy d30_65) rfl ?_
  refine o_virtualC W24 (w290 hw) (w291 hw) (o_nf W24 rfl (w293 hw)) (w293 hw) (w292 hw) (by decide) (XgO90.ext W24.ox) (w294 hw) (w169 hw) (rm64 l hw gO90 gO91 z1 h24 W24.old z10 VgO91 z11 XgO90) 2 13 38 (by decide) (by rw [hml]; rfl) (lenOf pd9 rfl) [(.long ((0 : Int64) + (((((((((((y1.toUInt64 >>> ((32 : Int32) &&& 0x3f).toInt64.toUInt64).toInt64).toInt32).toInt64) &&& (4294967295 : Int64)) <<< ((32 : Int32) &&& 0x3f).toInt64) ||| (((y1.toInt32).toInt64) &&& (4294967295 : Int64))) / (((1000000000 : Int32).toInt64) &&& (4294967295 : Int64))).toInt32).toInt64) &&& (4294967295 : Int64))))] rfl rfl 69 (hb hy d30_66) rfl rfl rfl all0 tri ?_
  intro v26 T26 h26 lo26 W26 K26 q26
  obtain rfl := q26.2.2
  show Gl _ _ _ _ _ _ _ _ [iZ, (.long ((0 : Int64) + (((((((((((y1.toUInt64 >>> ((32 : Int32) &&& 0x3f).toInt64.toUInt64).toInt64).toInt32).toInt64) &&& (4294967295 : Int64)) <<< ((32 : Int32) &&& 0x3f).toInt64) ||| (((y1.toInt32).toInt64) &&& (4294967295 : Int64))) / (((1000000000 : Int32).toInt64) &&& (4294967295 : Int64))).toInt32).toInt64) &&& (4294967295 : Int64))))]
  refine o_i2l W26 (v := 0) 70 (hb hy d30_69) (by decide) rfl ?_
  refine o_staticC W26 (w295 hw) (w296 hw) (w29 hw) (w297 hw) (by decide) (rm70 l hw ((0 : Int64) + (((((((((((y1.toUInt64 >>> ((32 : Int32) &&& 0x3f).toInt64.toUInt64).toInt64).toInt32).toInt64) &&& (4294967295 : Int64)) <<< ((32 : Int32) &&& 0x3f).toInt64) ||| (((y1.toInt32).toInt64) &&& (4294967295 : Int64))) / (((1000000000 : Int32).toInt64) &&& (4294967295 : Int64))).toInt32).toInt64) &&& (4294967295 : Int64))) h26 W26.old hc27 hc28) 0 14 40 (by decide) (by rw [hml]; rfl) (lenOf pd39 rfl) [] rfl rfl 73 (hb hy d30_70) rfl rfl rfl all0 tri ?_
  intro v29 T29 h29 lo29 W29 K29 q29
  obtain ⟨r1_29, P29_0, P29_1, P29_2, P29_3, rfl⟩ := q29.2.2
  show Gl _ _ _ _ _ _ _ _ [(.ref r1_29)]
  exact o_retA W29 hlk (v := (.ref r1_29)) hret rfl rfl (hb hy d30_73) (by decide) (by decide) ⟨r1_29, (Nat.le_trans W26.keep.1 P29_0), P29_1, P29_2, P29_3, rfl⟩
theorem rm145 (l : Launch) {Z a0} (hw : HW Z a0) (gO1 gO3 gO4 gO7 gO10 gO13 gO16 gO19 gO22 gO25 gO28 gO31 gO34 gO37 gO38 gO41 gO44 gO47 gO50 gO53 gO56 gO59 gO62 gO65 gO68 gO71 gO74 gO77 gO80 gO83 gO86 gO87 gO88 gO89 gO90 gO91 : Addr) (z0 z1 z2 z3 z4 z5 : ClassId) (h0 : Heap) (O0 : Old Z Z.heap.size h0) (z6 : Fld Z Z.heap gO1 s2 "seconds" "J" (.long 1)) (z7 : Sta Z Z.heap s0 s12 s7 (.ref gO3)) (VgO3 : Arv Z Z.heap gO3 z0 (.object s0) (11 : Int32) [(.ref gO4), (.ref gO7), (.ref gO10), (.ref gO13), (.ref gO16), (.ref gO19), (.ref gO22), (.ref gO25), (.ref gO28), (.ref gO31), (.ref gO34)] .null) (z8 : Fld Z Z.heap gO1 s2 "nanos" "I" iZ) (z9 : Sta Z Z.heap s0 s16 s7 (.ref gO37)) (VgO37 : Arv Z Z.heap gO37 z1 (.object s0) (16 : Int32) [(.ref gO38), (.ref gO41), (.ref gO44), (.ref gO47), (.ref gO50), (.ref gO53), (.ref gO56), (.ref gO59), (.ref gO62), (.ref gO65), (.ref gO68), (.ref gO71), (.ref gO74), (.ref gO77), (.ref gO80), (.ref gO83)] .null) (z10 : Fld Z Z.heap gO7 s0 s4 "J" (.long 1)) (z11 : Fld Z Z.heap gO65 s0 s4 "J" (.long 0)) (z12 : Fld Z Z.heap gO7 s0 "scale" "I" iZ) (z13 : Fld Z Z.heap gO65 s0 "scale" "I" (.int 9)) (z14 : Sta Z Z.heap s0 s13 "[J" (.ref gO86)) (z15 : Sta Z Z.heap s0 s14 "[J" (.ref gO87)) (VgO86 : Arv Z Z.heap gO86 z2 .long (19 : Int32) [(.long 1), (.long 10), (.long 100), (.long 1000), (.long 10000), (.long 100000), (.long 1000000), (.long 10000000), (.long 100000000), (.long 1000000000), (.long 10000000000), (.long 100000000000), (.long 1000000000000), (.long 10000000000000), (.long 100000000000000), (.long 1000000000000000), (.long 10000000000000000), (.long 100000000000000000), (.long 1000000000000000000)] (.long 0)) (VgO87 : Arv Z Z.heap gO87 z3 .long (19 : Int32) [(.long 9223372036854775807), (.long 922337203685477580), (.long 92233720368547758), (.long 9223372036854775), (.long 922337203685477), (.long 92233720368547), (.long 9223372036854), (.long 922337203685), (.long 92233720368), (.long 9223372036), (.long 922337203), (.long 92233720), (.long 9223372), (.long 922337), (.long 92233), (.long 9223), (.long 922), (.long 92), (.long 9)] (.long 0)) (XgO7 : Exa Z Z.heap gO7 s0) (XgO1 : Exa Z Z.heap gO1 s2) (z16 : Sta Z Z.heap s2 s15 s5 (.ref gO88)) (z17 : Fld Z Z.heap gO88 s1 "mag" "[I" (.ref gO89)) (VgO89 : Arv Z Z.heap gO89 z4 .int (1 : Int32) [(.int 1000000000)] iZ) (z18 : Fld Z Z.heap gO88 s1 "signum" "I" (.int 1)) (z19 : Sta Z Z.heap s1 "ZERO" s5 (.ref gO90)) (XgO90 : Exa Z Z.heap gO90 s1) (z20 : Fld Z Z.heap gO90 s1 "mag" "[I" (.ref gO91)) (VgO91 : Arv Z Z.heap gO91 z5 .int (0 : Int32) [] iZ) (z21 : Fld Z Z.heap gO90 s1 "signum" "I" iZ) :
    CtrN l Z mn2 jdk_2316_method_44_code 3 (some (.object s2)) [] (⟨8, 17, 55, 132⟩ : Room) #[(.ref gO1), (.long 16)] h0 [] (fun v h => ∃ r1 : Addr, h0.size ≤ r1 ∧ Exa Z h r1 s2 ∧ Fld Z h r1 s2 "seconds" "J" (.long 16) ∧ Fld Z h r1 s2 "nanos" "I" iZ ∧ v = some (.ref r1)) := by
  refine CtrN.intro (L0 := #[vr gO1, .val (.long 16), .second]) (plainFor_of_name pn1) O0 (fun _ => rfl) ?_
  intro p e s m below meth c T0 hy hml hret hlk hnm W0
  refine o_lloadN W0 1 (hb hy d6_0) rfl rfl <| o_lconst W0 (v := 0) 2 (hb hy d6_1) (by decide) rfl <| o_lcmp W0 (v := 1) 3 (hb hy d6_2) (by decide) rfl <| o_ifY W0 10 (hb hy d6_3) (XT.i0_ne_t (by decide)) (by decide) rfl <| o_lloadN W0 11 (hb hy d6_10) rfl rfl <| o_lconst W0 (v := 1) 12 (hb hy d6_11) (by decide) rfl ?_
  refine o_lcmp W0 (v := 1) 13 (hb hy d6_12) (by decide) rfl <| o_ifY W0 18 (hb hy d6_13) (XT.i0_ne_t (by decide)) (by decide) rfl <| o_aloadN W0 19 (hb hy d6_18) rfl rfl rfl ?_
  refine o_privateC W0 (w63 hw) (w64 hw) (w66 hw) (w65 hw) (w67 hw) (by decide) (XgO1.ext W0.ox) (w29 hw) (rm25 l hw gO1 gO3 gO4 gO7 gO10 gO13 gO16 gO19 gO22 gO25 gO28 gO31 gO34 gO37 gO38 gO41 gO44 gO47 gO50 gO53 gO56 gO59 gO62 gO65 gO68 gO71 gO74 gO77 gO80 gO83 gO86 gO87 z0 z1 z2 z3 h0 W0.old z6 z7 VgO3 z8 z9 VgO37 z10 z11 z12 z13 z14 z15 VgO86 VgO87 XgO7) 0 1 5 (by decide) (by rw [hml]; rfl) (lenOf pd20 rfl) [] rfl rfl 22 (hb hy d6_19) rfl rfl rfl all0 tri ?_
  intro v1 T1 h1 lo1 W1 K1 q1
  obtain ⟨r1_1, P1_0, P1_1, P1_2, P1_3, P1_4, P1_5, rfl⟩ := q1.2.2
  show Gl _ _ _ _ _ _ _ _ [(.ref r1_1)]
  refine o_lloadN W1 23 (hb hy d6_22) rfl rfl ?_
  refine o_staticC W1 (w68 hw) (w69 hw) (w70 hw) (w71 hw) (by decide) (rm136 l hw gO3 gO4 gO7 gO10 gO13 gO16 gO19 gO22 gO25 gO28 gO31 gO34 z0 h1 W1.old z7 VgO3) 1 2 10 (by decide) (by rw [hml]; rfl) (lenOf pd11 rfl) [(.ref r1_1)] rfl rfl 26 (hb hy d6_23) rfl rfl rfl all0 tri ?_
  intro v2 T2 h2 lo2 W2 K2 q2
  obtain ⟨r1_2, P2_0, P2_1, P2_2, P2_3, P2_4, P2_5, rfl⟩ := q2.2.2
  show Gl _ _ _ _ _ _ _ _ [(.ref r1_2), (.ref r1_1)]
  have c3 := (P1_3.keep K2 nin0)
  have c4 := (P1_2.keep K2 nin0)
  have c5 := (P1_1.keep K2)
  refine o_virtualC W2 (w125 hw) (w126 hw) (o_nf W2 rfl (w128 hw)) (w128 hw) (w127 hw) (by decide) c5 (w129 hw) (w70 hw) (rm140 l hw r1_1 r1_2 (1000000000 : Int64) h2 W2.old c3 P2_3 c5 c4 (by decide) P2_2 (by decide) (by decide) (by decide) (by decide)) 0 3 15 (by decide) (by rw [hml]; rfl) (lenOf pd19 rfl) [] rfl rfl 29 (hb hy d6_26) rfl rfl rfl all0 tri ?_
  intro v6 T6 h6 lo6 W6 K6 q6
  obtain ⟨r1_6, P6_0, P6_1, P6_2, P6_3, P6_4, P6_5, rfl⟩ := q6.2.2
  rw [show ((1000000000 : Int64) * (16 : Int64)) = (16000000000 : Int64) from by decide] at P6_2
  show Gl _ _ _ _ _ _ _ _ [(.ref r1_6)]
  refine o_staticC W6 (w144 hw) (w145 hw) (w29 hw) (w146 hw) (by decide) (rm144 l hw gO88 gO89 gO90 gO91 z4 z5 r1_6 (16000000000 : Int64) h6 W6.old P6_1 P6_3 P6_5 P6_2 (by decide) (by decide) (by decide) (by decide) (by decide) z16 z17 VgO89 (by decide) (by decide) (by decide) (by decide) z18 z19 XgO90 (by decide) (by decide) (by decide) (by decide) (by decide) (by decide) z20 VgO91 z21 (by decide) (by decide)) 0 17 55 (by decide) (by rw [hml]; rfl) (lenOf pd40 rfl) [] rfl rfl 32 (hb hy d6_29) rfl rfl rfl all0 tri ?_
  intro v7 T7 h7 lo7 W7 K7 q7
  obtain ⟨r1_7, P7_0, P7_1, P7_2, P7_3, rfl⟩ := q7.2.2
  rw [show (((0 : Int64) + ((((((((((((16000000000 : Int64).toUInt64 >>> ((32 : Int32) &&& 0x3f).toInt64.toUInt64).toInt64).toInt32).toInt64) &&& (4294967295 : Int64)) <<< ((32 : Int32) &&& 0x3f).toInt64) ||| ((((16000000000 : Int64).toInt32).toInt64) &&& (4294967295 : Int64))) / (((1000000000 : Int32).toInt64) &&& (4294967295 : Int64))).toInt32).toInt64) &&& (4294967295 : Int64))) + (0 : Int64)) = (16 : Int64) from by decide] at P7_2
  show Gl _ _ _ _ _ _ _ _ [(.ref r1_7)]
  exact o_retA W7 hlk (v := (.ref r1_7)) hret rfl rfl (hb hy d6_32) (by decide) (by decide) ⟨r1_7, (Nat.le_trans W6.keep.1 P7_0), P7_1, P7_2, P7_3, rfl⟩
theorem rm146 (l : Launch) {Z a0} (hw : HW Z a0)  (h0 : Heap) (O0 : Old Z Z.heap.size h0) :
    CtrN l Z mn3 jdk_35_method_42_code 4 (some .int) [] (⟨0, 0, 0, 0⟩ : Room) #[(.long 16), (.long 10)] h0 [] (fun v h => v = some (.int 1)) := by
  refine CtrN.intro (L0 := #[.val (.long 16), .second, .val (.long 10), .second]) (plainFor_of_name pn2) O0 (fun _ => rfl) ?_
  intro p e s m below meth c T0 hy hml hret hlk hnm W0
  refine o_lloadN W0 1 (hb hy d8_0) rfl rfl <| o_lloadN W0 2 (hb hy d8_1) rfl rfl <| o_lcmp W0 (v := 1) 3 (hb hy d8_2) (by decide) rfl <| o_ifY W0 10 (hb hy d8_3) (XT.i0_ge_t (by decide)) (by decide) rfl <| o_lloadN W0 11 (hb hy d8_10) rfl rfl <| o_lloadN W0 12 (hb hy d8_11) rfl rfl ?_
  refine o_lcmp W0 (v := 1) 13 (hb hy d8_12) (by decide) rfl <| o_ifY W0 20 (hb hy d8_13) (XT.i0_ne_t (by decide)) (by decide) rfl <| o_iconst W0 (v := 1) 21 (hb hy d8_20) rfl rfl ?_
  exact o_retI W0 hlk hret (hb hy d8_21) (by decide) (by decide) rfl
theorem rm147 (l : Launch) {Z a0} (hw : HW Z a0) (gO2 a1 : Addr) (h0 : Heap) (O0 : Old Z Z.heap.size h0) (z0 : Fld Z h0 a1 s2 "seconds" "J" (.long 16)) (z1 : Fld Z Z.heap gO2 s2 "seconds" "J" (.long 10)) :
    CtrN l Z mn4 jdk_2316_method_66_code 3 (some .int) [] (⟨1, 0, 0, 15⟩ : Room) #[(.ref a1), (.ref gO2)] h0 [] (fun v h => v = some (.int 1)) := by
  refine CtrN.intro (L0 := #[vr a1, vr gO2, un]) (plainFor_of_name pn1) O0 (fun _ => rfl) ?_
  intro p e s m below meth c T0 hy hml hret hlk hnm W0
  refine o_aloadN W0 1 (hb hy d7_0) rfl rfl rfl ?_
  refine o_getF W0 (w38 hw) Via.refl z0 4 (hb hy d7_1) rfl ?_
  intro T1 W1
  refine o_aloadN W1 5 (hb hy d7_4) rfl rfl rfl ?_
  refine o_getF W1 (w38 hw) Via.refl (z1.ext W1.ox) 8 (hb hy d7_5) rfl ?_
  intro T2 W2
  refine o_staticC W2 (w40 hw) (w41 hw) (w42 hw) (w43 hw) (by decide) (rm146 l hw  h0 W2.old ) 0 0 0 (by decide) (by rw [hml]; rfl) (lenOf pd3 rfl) [] rfl rfl 11 (hb hy d7_8) rfl rfl rfl all0 tri ?_
  intro v3 T3 h3 lo3 W3 K3 q3
  obtain rfl := q3.2.2
  show Gl _ _ _ _ _ _ _ _ [(.int 1)]
  refine o_istoreN W3 (L' := #[vr a1, vr gO2, vi 1]) 12 (hb hy d7_11) rfl rfl <| o_iloadN W3 13 (hb hy d7_12) rfl rfl <| o_ifN W3 16 (hb hy d7_13) (XT.i0_eq_f (by decide)) rfl <| o_iloadN W3 17 (hb hy d7_16) rfl rfl ?_
  exact o_retI W3 hlk hret (hb hy d7_17) (by decide) (by decide) rfl
theorem rm148 (l : Launch) {Z a0} (hw : HW Z a0) (gO1 gO2 gO3 gO4 gO7 gO10 gO13 gO16 gO19 gO22 gO25 gO28 gO31 gO34 gO37 gO38 gO41 gO44 gO47 gO50 gO53 gO56 gO59 gO62 gO65 gO68 gO71 gO74 gO77 gO80 gO83 gO86 gO87 gO88 gO89 gO90 gO91 : Addr) (z0 z1 z2 z3 z4 z5 : ClassId) (h0 : Heap) (O0 : Old Z Z.heap.size h0) (z6 : Sta Z Z.heap s6 "FIRST" s9 (.ref gO1)) (z7 : Fld Z Z.heap gO1 s2 "seconds" "J" (.long 1)) (z8 : Sta Z Z.heap s0 s12 s7 (.ref gO3)) (VgO3 : Arv Z Z.heap gO3 z0 (.object s0) (11 : Int32) [(.ref gO4), (.ref gO7), (.ref gO10), (.ref gO13), (.ref gO16), (.ref gO19), (.ref gO22), (.ref gO25), (.ref gO28), (.ref gO31), (.ref gO34)] .null) (z9 : Fld Z Z.heap gO1 s2 "nanos" "I" iZ) (z10 : Sta Z Z.heap s0 s16 s7 (.ref gO37)) (VgO37 : Arv Z Z.heap gO37 z1 (.object s0) (16 : Int32) [(.ref gO38), (.ref gO41), (.ref gO44), (.ref gO47), (.ref gO50), (.ref gO53), (.ref gO56), (.ref gO59), (.ref gO62), (.ref gO65), (.ref gO68), (.ref gO71), (.ref gO74), (.ref gO77), (.ref gO80), (.ref gO83)] .null) (z11 : Fld Z Z.heap gO7 s0 s4 "J" (.long 1)) (z12 : Fld Z Z.heap gO65 s0 s4 "J" (.long 0)) (z13 : Fld Z Z.heap gO7 s0 "scale" "I" iZ) (z14 : Fld Z Z.heap gO65 s0 "scale" "I" (.int 9)) (z15 : Sta Z Z.heap s0 s13 "[J" (.ref gO86)) (z16 : Sta Z Z.heap s0 s14 "[J" (.ref gO87)) (VgO86 : Arv Z Z.heap gO86 z2 .long (19 : Int32) [(.long 1), (.long 10), (.long 100), (.long 1000), (.long 10000), (.long 100000), (.long 1000000), (.long 10000000), (.long 100000000), (.long 1000000000), (.long 10000000000), (.long 100000000000), (.long 1000000000000), (.long 10000000000000), (.long 100000000000000), (.long 1000000000000000), (.long 10000000000000000), (.long 100000000000000000), (.long 1000000000000000000)] (.long 0)) (VgO87 : Arv Z Z.heap gO87 z3 .long (19 : Int32) [(.long 9223372036854775807), (.long 922337203685477580), (.long 92233720368547758), (.long 9223372036854775), (.long 922337203685477), (.long 92233720368547), (.long 9223372036854), (.long 922337203685), (.long 92233720368), (.long 9223372036), (.long 922337203), (.long 92233720), (.long 9223372), (.long 922337), (.long 92233), (.long 9223), (.long 922), (.long 92), (.long 9)] (.long 0)) (XgO7 : Exa Z Z.heap gO7 s0) (XgO1 : Exa Z Z.heap gO1 s2) (z17 : Sta Z Z.heap s2 s15 s5 (.ref gO88)) (z18 : Fld Z Z.heap gO88 s1 "mag" "[I" (.ref gO89)) (VgO89 : Arv Z Z.heap gO89 z4 .int (1 : Int32) [(.int 1000000000)] iZ) (z19 : Fld Z Z.heap gO88 s1 "signum" "I" (.int 1)) (z20 : Sta Z Z.heap s1 "ZERO" s5 (.ref gO90)) (XgO90 : Exa Z Z.heap gO90 s1) (z21 : Fld Z Z.heap gO90 s1 "mag" "[I" (.ref gO91)) (VgO91 : Arv Z Z.heap gO91 z5 .int (0 : Int32) [] iZ) (z22 : Fld Z Z.heap gO90 s1 "signum" "I" iZ) (z23 : Sta Z Z.heap s6 "MAX" s9 (.ref gO2)) (z24 : Fld Z Z.heap gO2 s2 "seconds" "J" (.long 10)) :
    CtrN l Z mn5 prog_3_method_2_code 2 (some (.object s2)) [] (⟨9, 17, 55, 146⟩ : Room) #[(.int 5)] h0 [] (fun v h => v = some (.ref gO2)) := by
  refine CtrN.intro (L0 := #[vi 5, un]) (plainFor_of_name pn0) O0 (fun _ => rfl) ?_
  intro p e s m below meth c T0 hy hml hret hlk hnm W0
  refine o_iloadN W0 1 (hb hy d4_0) rfl rfl <| o_iconst W0 (v := 1) 2 (hb hy d4_1) rfl rfl <| o_icmpY W0 19 (hb hy d4_2) (XT.ii_ge_t (by decide)) (by decide) rfl ?_
  refine o_getS W0 (w19 hw) Via.refl (z6.ext W0.ox) 22 (hb hy d4_19) rfl ?_
  intro T1 W1
  refine o_lconst W1 (v := 1) 23 (hb hy d4_22) (by decide) rfl <| o_iloadN W1 24 (hb hy d4_23) rfl rfl <| o_iconst W1 (v := 1) 25 (hb hy d4_24) rfl rfl <| o_isub W1 (v := 4) 26 (hb hy d4_25) (by decide) rfl <| o_iconst W1 (v := 4) 27 (hb hy d4_26) rfl rfl ?_
  refine o_staticC W1 (w21 hw) (w22 hw) (w23 hw) (w24 hw) (by decide) (rm134 l hw  h0 W1.old ) 3 0 0 (by decide) (by rw [hml]; rfl) (lenOf pd1 rfl) [(.long 1), (.ref gO1)] rfl rfl 30 (hb hy d4_27) rfl rfl rfl all0 tri ?_
  intro v2 T2 h2 lo2 W2 K2 q2
  obtain rfl := q2.2.2
  show Gl _ _ _ _ _ _ _ _ [(.int 4), (.long 1), (.ref gO1)]
  refine o_lshl W2 (v := 16) 31 (hb hy d4_30) (by decide) rfl ?_
  refine o_virtualC W2 (w25 hw) (w26 hw) (o_nf W2 rfl (w28 hw)) (w28 hw) (w27 hw) (by decide) (XgO1.ext W2.ox) (w30 hw) (w29 hw) (rm145 l hw gO1 gO3 gO4 gO7 gO10 gO13 gO16 gO19 gO22 gO25 gO28 gO31 gO34 gO37 gO38 gO41 gO44 gO47 gO50 gO53 gO56 gO59 gO62 gO65 gO68 gO71 gO74 gO77 gO80 gO83 gO86 gO87 gO88 gO89 gO90 gO91 z0 z1 z2 z3 z4 z5 h2 W2.old z7 z8 VgO3 z9 z10 VgO37 z11 z12 z13 z14 z15 z16 VgO86 VgO87 XgO7 XgO1 z17 z18 VgO89 z19 z20 XgO90 z21 VgO91 z22) 0 17 55 (by decide) (by rw [hml]; rfl) (lenOf pd2 rfl) [] rfl rfl 34 (hb hy d4_31) rfl rfl rfl all0 tri ?_
  intro v3 T3 h3 lo3 W3 K3 q3
  obtain ⟨r1_3, P3_0, P3_1, P3_2, P3_3, rfl⟩ := q3.2.2
  show Gl _ _ _ _ _ _ _ _ [(.ref r1_3)]
  refine o_astoreN W3 (L' := #[vi 5, vr r1_3]) 35 (hb hy d4_34) rfl rfl rfl <| o_aloadN W3 36 (hb hy d4_35) rfl rfl rfl ?_
  refine o_getS W3 (w31 hw) Via.refl (z23.ext W3.ox) 39 (hb hy d4_36) rfl ?_
  intro T4 W4
  refine o_virtualC W4 (w33 hw) (w34 hw) (o_nf W4 rfl (w36 hw)) (w36 hw) (w35 hw) (by decide) P3_1 (w37 hw) (w29 hw) (rm147 l hw gO2 r1_3 h3 W4.old P3_2 z24) 0 17 55 (by decide) (by rw [hml]; rfl) (lenOf pd4 rfl) [] rfl rfl 42 (hb hy d4_39) rfl rfl rfl all0 tri ?_
  intro v5 T5 h5 lo5 W5 K5 q5
  obtain rfl := q5.2.2
  show Gl _ _ _ _ _ _ _ _ [(.int 1)]
  refine o_ifY W5 49 (hb hy d4_42) (XT.i0_ge_t (by decide)) (by decide) rfl ?_
  refine o_getS W5 (w31 hw) Via.refl (z23.ext W5.ox) 52 (hb hy d4_49) rfl ?_
  intro T6 W6
  exact o_retA W6 hlk (v := (.ref gO2)) hret rfl rfl (hb hy d4_52) (by decide) (by decide) rfl
theorem rm149 (l : Launch) {Z a0} (hw : HW Z a0) (gO1 gO2 gO3 gO4 gO7 gO10 gO13 gO16 gO19 gO22 gO25 gO28 gO31 gO34 gO37 gO38 gO41 gO44 gO47 gO50 gO53 gO56 gO59 gO62 gO65 gO68 gO71 gO74 gO77 gO80 gO83 gO86 gO87 gO88 gO89 gO90 gO91 : Addr) (z0 z1 z2 z3 z4 z5 : ClassId) (a1 : Addr) (h0 : Heap) (O0 : Old Z Z.heap.size h0) (z6 : Fld Z h0 a1 s6 s11 "I" (.int 4)) (z7 : Exa Z h0 a1 s6) (z8 : Z.heap.size ≤ a1) (z9 : Sta Z Z.heap s6 "FIRST" s9 (.ref gO1)) (z10 : Fld Z Z.heap gO1 s2 "seconds" "J" (.long 1)) (z11 : Sta Z Z.heap s0 s12 s7 (.ref gO3)) (VgO3 : Arv Z Z.heap gO3 z0 (.object s0) (11 : Int32) [(.ref gO4), (.ref gO7), (.ref gO10), (.ref gO13), (.ref gO16), (.ref gO19), (.ref gO22), (.ref gO25), (.ref gO28), (.ref gO31), (.ref gO34)] .null) (z12 : Fld Z Z.heap gO1 s2 "nanos" "I" iZ) (z13 : Sta Z Z.heap s0 s16 s7 (.ref gO37)) (VgO37 : Arv Z Z.heap gO37 z1 (.object s0) (16 : Int32) [(.ref gO38), (.ref gO41), (.ref gO44), (.ref gO47), (.ref gO50), (.ref gO53), (.ref gO56), (.ref gO59), (.ref gO62), (.ref gO65), (.ref gO68), (.ref gO71), (.ref gO74), (.ref gO77), (.ref gO80), (.ref gO83)] .null) (z14 : Fld Z Z.heap gO7 s0 s4 "J" (.long 1)) (z15 : Fld Z Z.heap gO65 s0 s4 "J" (.long 0)) (z16 : Fld Z Z.heap gO7 s0 "scale" "I" iZ) (z17 : Fld Z Z.heap gO65 s0 "scale" "I" (.int 9)) (z18 : Sta Z Z.heap s0 s13 "[J" (.ref gO86)) (z19 : Sta Z Z.heap s0 s14 "[J" (.ref gO87)) (VgO86 : Arv Z Z.heap gO86 z2 .long (19 : Int32) [(.long 1), (.long 10), (.long 100), (.long 1000), (.long 10000), (.long 100000), (.long 1000000), (.long 10000000), (.long 100000000), (.long 1000000000), (.long 10000000000), (.long 100000000000), (.long 1000000000000), (.long 10000000000000), (.long 100000000000000), (.long 1000000000000000), (.long 10000000000000000), (.long 100000000000000000), (.long 1000000000000000000)] (.long 0)) (VgO87 : Arv Z Z.heap gO87 z3 .long (19 : Int32) [(.long 9223372036854775807), (.long 922337203685477580), (.long 92233720368547758), (.long 9223372036854775), (.long 922337203685477), (.long 92233720368547), (.long 9223372036854), (.long 922337203685), (.long 92233720368), (.long 9223372036), (.long 922337203), (.long 92233720), (.long 9223372), (.long 922337), (.long 92233), (.long 9223), (.long 922), (.long 92), (.long 9)] (.long 0)) (XgO7 : Exa Z Z.heap gO7 s0) (XgO1 : Exa Z Z.heap gO1 s2) (z20 : Sta Z Z.heap s2 s15 s5 (.ref gO88)) (z21 : Fld Z Z.heap gO88 s1 "mag" "[I" (.ref gO89)) (VgO89 : Arv Z Z.heap gO89 z4 .int (1 : Int32) [(.int 1000000000)] iZ) (z22 : Fld Z Z.heap gO88 s1 "signum" "I" (.int 1)) (z23 : Sta Z Z.heap s1 "ZERO" s5 (.ref gO90)) (XgO90 : Exa Z Z.heap gO90 s1) (z24 : Fld Z Z.heap gO90 s1 "mag" "[I" (.ref gO91)) (VgO91 : Arv Z Z.heap gO91 z5 .int (0 : Int32) [] iZ) (z25 : Fld Z Z.heap gO90 s1 "signum" "I" iZ) (z26 : Sta Z Z.heap s6 "MAX" s9 (.ref gO2)) (z27 : Fld Z Z.heap gO2 s2 "seconds" "J" (.long 10)) :
    CtrN l Z mn6 prog_3_method_3_code 1 (some (.object s2)) [] (⟨10, 17, 55, 159⟩ : Room) #[(.ref a1)] h0 [a1] (fun v h => Fld Z h a1 s6 s11 "I" (.int 5) ∧ v = some (.ref gO2)) := by
  refine CtrN.intro (L0 := #[vr a1]) (plainFor_of_name pn0) O0 (fun _ => rfl) ?_
  intro p e s m below meth c T0 hy hml hret hlk hnm W0
  refine o_aloadN W0 1 (hb hy d3_0) rfl rfl rfl <| o_dup W0 2 (hb hy d3_1) rfl rfl ?_
  refine o_getF W0 (w14 hw) Via.refl z6 5 (hb hy d3_2) rfl ?_
  intro T1 W1
  refine o_iconst W1 (v := 1) 6 (hb hy d3_5) rfl rfl <| o_iadd W1 (v := 5) 7 (hb hy d3_6) (by decide) rfl ?_
  refine o_putF W1 (w14 hw) Via.refl z6 z7 (Or.inl (w15 hw)) (w1 hw) (ty := .int) (v' := (.int 5)) (by decide) rfl rfl z8 m0 tri 10 (hb hy d3_7) rfl ?_
  intro T2 h2 lo2 W2 R2
  have F2 := z6.same R2
  refine o_aloadN W2 11 (hb hy d3_10) rfl rfl rfl ?_
  refine o_getF W2 (w14 hw) Via.refl F2 14 (hb hy d3_11) rfl ?_
  intro T3 W3
  refine o_staticC W3 (w16 hw) (w17 hw) (w2 hw) (w18 hw) (by decide) (rm148 l hw gO1 gO2 gO3 gO4 gO7 gO10 gO13 gO16 gO19 gO22 gO25 gO28 gO31 gO34 gO37 gO38 gO41 gO44 gO47 gO50 gO53 gO56 gO59 gO62 gO65 gO68 gO71 gO74 gO77 gO80 gO83 gO86 gO87 gO88 gO89 gO90 gO91 z0 z1 z2 z3 z4 z5 h2 W3.old z9 z10 z11 VgO3 z12 z13 VgO37 z14 z15 z16 z17 z18 z19 VgO86 VgO87 XgO7 XgO1 z20 z21 VgO89 z22 z23 XgO90 z24 VgO91 z25 z26 z27) 0 17 55 (by decide) (by rw [hml]; rfl) (lenOf pd5 rfl) [] rfl rfl 17 (hb hy d3_14) rfl rfl rfl all0 tri ?_
  intro v4 T4 h4 lo4 W4 K4 q4
  obtain rfl := q4.2.2
  show Gl _ _ _ _ _ _ _ _ [(.ref gO2)]
  have c5 := (F2.keep K4 nin0)
  have c6 := ((z7.wr R2).keep K4)
  exact o_retA W4 hlk (v := (.ref gO2)) hret rfl rfl (hb hy d3_17) (by decide) (by decide) ⟨c5, rfl⟩
theorem rm150 (l : Launch) {Z a0} (hw : HW Z a0) (gO2 : Addr) (h0 : Heap) (O0 : Old Z Z.heap.size h0) (z0 : Fld Z Z.heap gO2 s2 "seconds" "J" (.long 10)) :
    CtrN l Z mn7 jdk_2316_method_23_code 1 (some .long) [] (⟨0, 0, 0, 0⟩ : Room) #[(.ref gO2)] h0 [] (fun v h => v = some (.long 10)) := by
  refine CtrN.intro (L0 := #[vr gO2]) (plainFor_of_name pn1) O0 (fun _ => rfl) ?_
  intro p e s m below meth c T0 hy hml hret hlk hnm W0
  refine o_aloadN W0 1 (hb hy d10_0) rfl rfl rfl ?_
  refine o_getF W0 (w38 hw) Via.refl (z0.ext W0.ox) 4 (hb hy d10_1) rfl ?_
  intro T1 W1
  exact o_retJ W1 hlk hret (hb hy d10_4) (by decide) (by decide) rfl
theorem rm151 (l : Launch) {Z a0} (hw : HW Z a0)  (h0 : Heap) (O0 : Old Z Z.heap.size h0) :
    CtrN l Z mn8 method_2_code 1 (some .long) [] (⟨0, 0, 0, 0⟩ : Room) #[(.int 5)] h0 [] (fun v h => v = some (.long 10)) := by
  refine CtrN.intro (L0 := #[vi 5]) (plainFor_of_name pn3) O0 (fun _ => rfl) ?_
  intro p e s m below meth c T0 hy hml hret hlk hnm W0
  refine o_iloadN W0 1 (hb hy d11_0) rfl rfl <| o_iconst W0 (v := 1) 2 (hb hy d11_1) rfl rfl <| o_icmpY W0 7 (hb hy d11_2) (XT.ii_ne_t (by decide)) (by decide) rfl <| o_iloadN W0 8 (hb hy d11_7) rfl rfl <| o_iconst W0 (v := 2) 9 (hb hy d11_8) rfl rfl <| o_icmpY W0 16 (hb hy d11_9) (XT.ii_ne_t (by decide)) (by decide) rfl ?_
  refine o_iloadN W0 17 (hb hy d11_16) rfl rfl <| o_iconst W0 (v := 3) 18 (hb hy d11_17) rfl rfl <| o_icmpY W0 25 (hb hy d11_18) (XT.ii_ne_t (by decide)) (by decide) rfl <| o_iloadN W0 26 (hb hy d11_25) rfl rfl <| o_iconst W0 (v := 4) 27 (hb hy d11_26) rfl rfl <| o_icmpY W0 34 (hb hy d11_27) (XT.ii_ne_t (by decide)) (by decide) rfl ?_
  refine o_ldcJ W0 (w345 hw) 37 (hb hy d11_34) rfl ?_
  exact o_retJ W0 hlk hret (hb hy d11_37) (by decide) (by decide) rfl
theorem rm152 (l : Launch) {Z a0} (hw : HW Z a0) (gO2 : Addr) (h0 : Heap) (O0 : Old Z Z.heap.size h0) (z0 : Fld Z Z.heap gO2 s2 "nanos" "I" iZ) :
    CtrN l Z mn9 jdk_2316_method_24_code 1 (some .int) [] (⟨0, 0, 0, 0⟩ : Room) #[(.ref gO2)] h0 [] (fun v h => v = some iZ) := by
  refine CtrN.intro (L0 := #[vr gO2]) (plainFor_of_name pn1) O0 (fun _ => rfl) ?_
  intro p e s m below meth c T0 hy hml hret hlk hnm W0
  refine o_aloadN W0 1 (hb hy d12_0) rfl rfl rfl ?_
  refine o_getF W0 (w61 hw) Via.refl (z0.ext W0.ox) 4 (hb hy d12_1) rfl ?_
  intro T1 W1
  exact o_retI W1 hlk hret (hb hy d12_4) (by decide) (by decide) rfl
theorem rm153 (l : Launch) {Z a0} (hw : HW Z a0) (gO2 : Addr) (h0 : Heap) (O0 : Old Z Z.heap.size h0) (z0 : Fld Z Z.heap gO2 s2 "seconds" "J" (.long 10)) (XgO2 : Exa Z Z.heap gO2 s2) (z1 : Fld Z Z.heap gO2 s2 "nanos" "I" iZ) :
    CtrN l Z mn10 method_3_code 2 (some .boolean) [] (⟨1, 0, 0, 14⟩ : Room) #[(.ref gO2), (.int 5)] h0 [] (fun v h => v = some (.int 1)) := by
  refine CtrN.intro (L0 := #[vr gO2, vi 5]) (plainFor_of_name pn3) O0 (fun _ => rfl) ?_
  intro p e s m below meth c T0 hy hml hret hlk hnm W0
  refine o_aloadN W0 1 (hb hy d9_0) rfl rfl rfl ?_
  refine o_ifnullN W0 4 (hb hy d9_1) rfl ?_
  refine o_aloadN W0 5 (hb hy d9_4) rfl rfl rfl ?_
  refine o_virtualC W0 (w48 hw) (w49 hw) (o_nf W0 rfl (w51 hw)) (w51 hw) (w50 hw) (by decide) (XgO2.ext W0.ox) (w52 hw) (w29 hw) (rm150 l hw gO2 h0 W0.old z0) 0 0 0 (by decide) (by rw [hml]; rfl) (lenOf pd7 rfl) [] rfl rfl 8 (hb hy d9_5) rfl rfl rfl all0 tri ?_
  intro v1 T1 h1 lo1 W1 K1 q1
  obtain rfl := q1.2.2
  show Gl _ _ _ _ _ _ _ _ [(.long 10)]
  refine o_iloadN W1 9 (hb hy d9_8) rfl rfl ?_
  refine o_staticC W1 (w53 hw) (w54 hw) (w46 hw) (w55 hw) (by decide) (rm151 l hw  h1 W1.old ) 2 0 0 (by decide) (by rw [hml]; rfl) (lenOf pd8 rfl) [(.long 10)] rfl rfl 12 (hb hy d9_9) rfl rfl rfl all0 tri ?_
  intro v2 T2 h2 lo2 W2 K2 q2
  obtain rfl := q2.2.2
  show Gl _ _ _ _ _ _ _ _ [(.long 10), (.long 10)]
  refine o_lcmp W2 (v := 0) 13 (hb hy d9_12) (by decide) rfl <| o_ifN W2 16 (hb hy d9_13) (XT.i0_ne_f (by decide)) rfl <| o_aloadN W2 17 (hb hy d9_16) rfl rfl rfl ?_
  refine o_virtualC W2 (w56 hw) (w57 hw) (o_nf W2 rfl (w59 hw)) (w59 hw) (w58 hw) (by decide) (XgO2.ext W2.ox) (w60 hw) (w29 hw) (rm152 l hw gO2 h2 W2.old z1) 0 0 0 (by decide) (by rw [hml]; rfl) (lenOf pd9 rfl) [] rfl rfl 20 (hb hy d9_17) rfl rfl rfl all0 tri ?_
  intro v3 T3 h3 lo3 W3 K3 q3
  obtain rfl := q3.2.2
  show Gl _ _ _ _ _ _ _ _ [iZ]
  refine o_ifN W3 23 (hb hy d9_20) (XT.i0_ne_f (by decide)) rfl <| o_iconst W3 (v := 1) 24 (hb hy d9_23) rfl rfl <| o_goto W3 28 (hb hy d9_24) (by decide) rfl ?_
  exact o_retN W3 hlk (t := .boolean) hret (by simp) (z' := (1 : Int32)) (by decide) (hb hy d9_28) (by decide) (by decide) rfl
theorem rm154 (l : Launch) {Z a0} (hw : HW Z a0)  (h0 : Heap) (O0 : Old Z Z.heap.size h0) :
    CtrN l Z mn1 jdk_29_method_69_code 2 (some .int) [] (⟨0, 0, 0, 0⟩ : Room) #[(.int 5), (.int 4)] h0 [] (fun v h => v = some (.int 4)) := by
  refine CtrN.intro (L0 := #[vi 5, vi 4]) (Jvm.Free.JP.mathPlain rfl (by decide +kernel)) O0 (fun _ => rfl) ?_
  intro p e s m below meth c T0 hy hml hret hlk hnm W0
  refine o_iloadN W0 1 (hb hy d5_0) rfl rfl <| o_iloadN W0 2 (hb hy d5_1) rfl rfl <| o_icmpY W0 9 (hb hy d5_2) (XT.ii_gt_t (by decide)) (by decide) rfl <| o_iloadN W0 10 (hb hy d5_9) rfl rfl ?_
  exact o_retI W0 hlk hret (hb hy d5_10) (by decide) (by decide) rfl
theorem rm155 (l : Launch) {Z a0} (hw : HW Z a0) (gO1 gO2 gO3 gO4 gO7 gO10 gO13 gO16 gO19 gO22 gO25 gO28 gO31 gO34 gO37 gO38 gO41 gO44 gO47 gO50 gO53 gO56 gO59 gO62 gO65 gO68 gO71 gO74 gO77 gO80 gO83 gO86 gO87 gO88 gO89 gO90 gO91 : Addr) (z0 z1 z2 z3 z4 z5 : ClassId) (h0 : Heap) (O0 : Old Z Z.heap.size h0) (z6 : Sta Z Z.heap s6 "FIRST" s9 (.ref gO1)) (z7 : Fld Z Z.heap gO1 s2 "seconds" "J" (.long 1)) (z8 : Sta Z Z.heap s0 s12 s7 (.ref gO3)) (VgO3 : Arv Z Z.heap gO3 z0 (.object s0) (11 : Int32) [(.ref gO4), (.ref gO7), (.ref gO10), (.ref gO13), (.ref gO16), (.ref gO19), (.ref gO22), (.ref gO25), (.ref gO28), (.ref gO31), (.ref gO34)] .null) (z9 : Fld Z Z.heap gO1 s2 "nanos" "I" iZ) (z10 : Sta Z Z.heap s0 s16 s7 (.ref gO37)) (VgO37 : Arv Z Z.heap gO37 z1 (.object s0) (16 : Int32) [(.ref gO38), (.ref gO41), (.ref gO44), (.ref gO47), (.ref gO50), (.ref gO53), (.ref gO56), (.ref gO59), (.ref gO62), (.ref gO65), (.ref gO68), (.ref gO71), (.ref gO74), (.ref gO77), (.ref gO80), (.ref gO83)] .null) (z11 : Fld Z Z.heap gO7 s0 s4 "J" (.long 1)) (z12 : Fld Z Z.heap gO65 s0 s4 "J" (.long 0)) (z13 : Fld Z Z.heap gO7 s0 "scale" "I" iZ) (z14 : Fld Z Z.heap gO65 s0 "scale" "I" (.int 9)) (z15 : Sta Z Z.heap s0 s13 "[J" (.ref gO86)) (z16 : Sta Z Z.heap s0 s14 "[J" (.ref gO87)) (VgO86 : Arv Z Z.heap gO86 z2 .long (19 : Int32) [(.long 1), (.long 10), (.long 100), (.long 1000), (.long 10000), (.long 100000), (.long 1000000), (.long 10000000), (.long 100000000), (.long 1000000000), (.long 10000000000), (.long 100000000000), (.long 1000000000000), (.long 10000000000000), (.long 100000000000000), (.long 1000000000000000), (.long 10000000000000000), (.long 100000000000000000), (.long 1000000000000000000)] (.long 0)) (VgO87 : Arv Z Z.heap gO87 z3 .long (19 : Int32) [(.long 9223372036854775807), (.long 922337203685477580), (.long 92233720368547758), (.long 9223372036854775), (.long 922337203685477), (.long 92233720368547), (.long 9223372036854), (.long 922337203685), (.long 92233720368), (.long 9223372036), (.long 922337203), (.long 92233720), (.long 9223372), (.long 922337), (.long 92233), (.long 9223), (.long 922), (.long 92), (.long 9)] (.long 0)) (XgO7 : Exa Z Z.heap gO7 s0) (XgO1 : Exa Z Z.heap gO1 s2) (z17 : Sta Z Z.heap s2 s15 s5 (.ref gO88)) (z18 : Fld Z Z.heap gO88 s1 "mag" "[I" (.ref gO89)) (VgO89 : Arv Z Z.heap gO89 z4 .int (1 : Int32) [(.int 1000000000)] iZ) (z19 : Fld Z Z.heap gO88 s1 "signum" "I" (.int 1)) (z20 : Sta Z Z.heap s1 "ZERO" s5 (.ref gO90)) (XgO90 : Exa Z Z.heap gO90 s1) (z21 : Fld Z Z.heap gO90 s1 "mag" "[I" (.ref gO91)) (VgO91 : Arv Z Z.heap gO91 z5 .int (0 : Int32) [] iZ) (z22 : Fld Z Z.heap gO90 s1 "signum" "I" iZ) (z23 : Sta Z Z.heap s6 "MAX" s9 (.ref gO2)) (z24 : Fld Z Z.heap gO2 s2 "seconds" "J" (.long 10)) :
    CtrN l Z mn5 prog_3_method_2_code 2 (some (.object s2)) [] (⟨9, 17, 55, 146⟩ : Room) #[(.int 6)] h0 [] (fun v h => v = some (.ref gO2)) := by
  refine CtrN.intro (L0 := #[vi 6, un]) (plainFor_of_name pn0) O0 (fun _ => rfl) ?_
  intro p e s m below meth c T0 hy hml hret hlk hnm W0
  refine o_iloadN W0 1 (hb hy d4_0) rfl rfl <| o_iconst W0 (v := 1) 2 (hb hy d4_1) rfl rfl <| o_icmpY W0 19 (hb hy d4_2) (XT.ii_ge_t (by decide)) (by decide) rfl ?_
  refine o_getS W0 (w19 hw) Via.refl (z6.ext W0.ox) 22 (hb hy d4_19) rfl ?_
  intro T1 W1
  refine o_lconst W1 (v := 1) 23 (hb hy d4_22) (by decide) rfl <| o_iloadN W1 24 (hb hy d4_23) rfl rfl <| o_iconst W1 (v := 1) 25 (hb hy d4_24) rfl rfl <| o_isub W1 (v := 5) 26 (hb hy d4_25) (by decide) rfl <| o_iconst W1 (v := 4) 27 (hb hy d4_26) rfl rfl ?_
  refine o_staticC W1 (w21 hw) (w22 hw) (w23 hw) (w24 hw) (by decide) (rm154 l hw  h0 W1.old ) 3 0 0 (by decide) (by rw [hml]; rfl) (lenOf pd1 rfl) [(.long 1), (.ref gO1)] rfl rfl 30 (hb hy d4_27) rfl rfl rfl all0 tri ?_
  intro v2 T2 h2 lo2 W2 K2 q2
  obtain rfl := q2.2.2
  show Gl _ _ _ _ _ _ _ _ [(.int 4), (.long 1), (.ref gO1)]
  refine o_lshl W2 (v := 16) 31 (hb hy d4_30) (by decide) rfl ?_
  refine o_virtualC W2 (w25 hw) (w26 hw) (o_nf W2 rfl (w28 hw)) (w28 hw) (w27 hw) (by decide) (XgO1.ext W2.ox) (w30 hw) (w29 hw) (rm145 l hw gO1 gO3 gO4 gO7 gO10 gO13 gO16 gO19 gO22 gO25 gO28 gO31 gO34 gO37 gO38 gO41 gO44 gO47 gO50 gO53 gO56 gO59 gO62 gO65 gO68 gO71 gO74 gO77 gO80 gO83 gO86 gO87 gO88 gO89 gO90 gO91 z0 z1 z2 z3 z4 z5 h2 W2.old z7 z8 VgO3 z9 z10 VgO37 z11 z12 z13 z14 z15 z16 VgO86 VgO87 XgO7 XgO1 z17 z18 VgO89 z19 z20 XgO90 z21 VgO91 z22) 0 17 55 (by decide) (by rw [hml]; rfl) (lenOf pd2 rfl) [] rfl rfl 34 (hb hy d4_31) rfl rfl rfl all0 tri ?_
  intro v3 T3 h3 lo3 W3 K3 q3
  obtain ⟨r1_3, P3_0, P3_1, P3_2, P3_3, rfl⟩ := q3.2.2
  show Gl _ _ _ _ _ _ _ _ [(.ref r1_3)]
  refine o_astoreN W3 (L' := #[vi 6, vr r1_3]) 35 (hb hy d4_34) rfl rfl rfl <| o_aloadN W3 36 (hb hy d4_35) rfl rfl rfl ?_
  refine o_getS W3 (w31 hw) Via.refl (z23.ext W3.ox) 39 (hb hy d4_36) rfl ?_
  intro T4 W4
  refine o_virtualC W4 (w33 hw) (w34 hw) (o_nf W4 rfl (w36 hw)) (w36 hw) (w35 hw) (by decide) P3_1 (w37 hw) (w29 hw) (rm147 l hw gO2 r1_3 h3 W4.old P3_2 z24) 0 17 55 (by decide) (by rw [hml]; rfl) (lenOf pd4 rfl) [] rfl rfl 42 (hb hy d4_39) rfl rfl rfl all0 tri ?_
  intro v5 T5 h5 lo5 W5 K5 q5
  obtain rfl := q5.2.2
  show Gl _ _ _ _ _ _ _ _ [(.int 1)]
  refine o_ifY W5 49 (hb hy d4_42) (XT.i0_ge_t (by decide)) (by decide) rfl ?_
  refine o_getS W5 (w31 hw) Via.refl (z23.ext W5.ox) 52 (hb hy d4_49) rfl ?_
  intro T6 W6
  exact o_retA W6 hlk (v := (.ref gO2)) hret rfl rfl (hb hy d4_52) (by decide) (by decide) rfl
theorem rm156 (l : Launch) {Z a0} (hw : HW Z a0) (gO1 gO2 gO3 gO4 gO7 gO10 gO13 gO16 gO19 gO22 gO25 gO28 gO31 gO34 gO37 gO38 gO41 gO44 gO47 gO50 gO53 gO56 gO59 gO62 gO65 gO68 gO71 gO74 gO77 gO80 gO83 gO86 gO87 gO88 gO89 gO90 gO91 : Addr) (z0 z1 z2 z3 z4 z5 : ClassId) (a1 : Addr) (h0 : Heap) (O0 : Old Z Z.heap.size h0) (z6 : Fld Z h0 a1 s6 s11 "I" (.int 5)) (z7 : Exa Z h0 a1 s6) (z8 : Z.heap.size ≤ a1) (z9 : Sta Z Z.heap s6 "FIRST" s9 (.ref gO1)) (z10 : Fld Z Z.heap gO1 s2 "seconds" "J" (.long 1)) (z11 : Sta Z Z.heap s0 s12 s7 (.ref gO3)) (VgO3 : Arv Z Z.heap gO3 z0 (.object s0) (11 : Int32) [(.ref gO4), (.ref gO7), (.ref gO10), (.ref gO13), (.ref gO16), (.ref gO19), (.ref gO22), (.ref gO25), (.ref gO28), (.ref gO31), (.ref gO34)] .null) (z12 : Fld Z Z.heap gO1 s2 "nanos" "I" iZ) (z13 : Sta Z Z.heap s0 s16 s7 (.ref gO37)) (VgO37 : Arv Z Z.heap gO37 z1 (.object s0) (16 : Int32) [(.ref gO38), (.ref gO41), (.ref gO44), (.ref gO47), (.ref gO50), (.ref gO53), (.ref gO56), (.ref gO59), (.ref gO62), (.ref gO65), (.ref gO68), (.ref gO71), (.ref gO74), (.ref gO77), (.ref gO80), (.ref gO83)] .null) (z14 : Fld Z Z.heap gO7 s0 s4 "J" (.long 1)) (z15 : Fld Z Z.heap gO65 s0 s4 "J" (.long 0)) (z16 : Fld Z Z.heap gO7 s0 "scale" "I" iZ) (z17 : Fld Z Z.heap gO65 s0 "scale" "I" (.int 9)) (z18 : Sta Z Z.heap s0 s13 "[J" (.ref gO86)) (z19 : Sta Z Z.heap s0 s14 "[J" (.ref gO87)) (VgO86 : Arv Z Z.heap gO86 z2 .long (19 : Int32) [(.long 1), (.long 10), (.long 100), (.long 1000), (.long 10000), (.long 100000), (.long 1000000), (.long 10000000), (.long 100000000), (.long 1000000000), (.long 10000000000), (.long 100000000000), (.long 1000000000000), (.long 10000000000000), (.long 100000000000000), (.long 1000000000000000), (.long 10000000000000000), (.long 100000000000000000), (.long 1000000000000000000)] (.long 0)) (VgO87 : Arv Z Z.heap gO87 z3 .long (19 : Int32) [(.long 9223372036854775807), (.long 922337203685477580), (.long 92233720368547758), (.long 9223372036854775), (.long 922337203685477), (.long 92233720368547), (.long 9223372036854), (.long 922337203685), (.long 92233720368), (.long 9223372036), (.long 922337203), (.long 92233720), (.long 9223372), (.long 922337), (.long 92233), (.long 9223), (.long 922), (.long 92), (.long 9)] (.long 0)) (XgO7 : Exa Z Z.heap gO7 s0) (XgO1 : Exa Z Z.heap gO1 s2) (z20 : Sta Z Z.heap s2 s15 s5 (.ref gO88)) (z21 : Fld Z Z.heap gO88 s1 "mag" "[I" (.ref gO89)) (VgO89 : Arv Z Z.heap gO89 z4 .int (1 : Int32) [(.int 1000000000)] iZ) (z22 : Fld Z Z.heap gO88 s1 "signum" "I" (.int 1)) (z23 : Sta Z Z.heap s1 "ZERO" s5 (.ref gO90)) (XgO90 : Exa Z Z.heap gO90 s1) (z24 : Fld Z Z.heap gO90 s1 "mag" "[I" (.ref gO91)) (VgO91 : Arv Z Z.heap gO91 z5 .int (0 : Int32) [] iZ) (z25 : Fld Z Z.heap gO90 s1 "signum" "I" iZ) (z26 : Sta Z Z.heap s6 "MAX" s9 (.ref gO2)) (z27 : Fld Z Z.heap gO2 s2 "seconds" "J" (.long 10)) :
    CtrN l Z mn6 prog_3_method_3_code 1 (some (.object s2)) [] (⟨10, 17, 55, 159⟩ : Room) #[(.ref a1)] h0 [a1] (fun v h => Fld Z h a1 s6 s11 "I" (.int 6) ∧ v = some (.ref gO2)) := by
  refine CtrN.intro (L0 := #[vr a1]) (plainFor_of_name pn0) O0 (fun _ => rfl) ?_
  intro p e s m below meth c T0 hy hml hret hlk hnm W0
  refine o_aloadN W0 1 (hb hy d3_0) rfl rfl rfl <| o_dup W0 2 (hb hy d3_1) rfl rfl ?_
  refine o_getF W0 (w14 hw) Via.refl z6 5 (hb hy d3_2) rfl ?_
  intro T1 W1
  refine o_iconst W1 (v := 1) 6 (hb hy d3_5) rfl rfl <| o_iadd W1 (v := 6) 7 (hb hy d3_6) (by decide) rfl ?_
  refine o_putF W1 (w14 hw) Via.refl z6 z7 (Or.inl (w15 hw)) (w1 hw) (ty := .int) (v' := (.int 6)) (by decide) rfl rfl z8 m0 tri 10 (hb hy d3_7) rfl ?_
  intro T2 h2 lo2 W2 R2
  have F2 := z6.same R2
  refine o_aloadN W2 11 (hb hy d3_10) rfl rfl rfl ?_
  refine o_getF W2 (w14 hw) Via.refl F2 14 (hb hy d3_11) rfl ?_
  intro T3 W3
  refine o_staticC W3 (w16 hw) (w17 hw) (w2 hw) (w18 hw) (by decide) (rm155 l hw gO1 gO2 gO3 gO4 gO7 gO10 gO13 gO16 gO19 gO22 gO25 gO28 gO31 gO34 gO37 gO38 gO41 gO44 gO47 gO50 gO53 gO56 gO59 gO62 gO65 gO68 gO71 gO74 gO77 gO80 gO83 gO86 gO87 gO88 gO89 gO90 gO91 z0 z1 z2 z3 z4 z5 h2 W3.old z9 z10 z11 VgO3 z12 z13 VgO37 z14 z15 z16 z17 z18 z19 VgO86 VgO87 XgO7 XgO1 z20 z21 VgO89 z22 z23 XgO90 z24 VgO91 z25 z26 z27) 0 17 55 (by decide) (by rw [hml]; rfl) (lenOf pd5 rfl) [] rfl rfl 17 (hb hy d3_14) rfl rfl rfl all0 tri ?_
  intro v4 T4 h4 lo4 W4 K4 q4
  obtain rfl := q4.2.2
  show Gl _ _ _ _ _ _ _ _ [(.ref gO2)]
  have c5 := (F2.keep K4 nin0)
  have c6 := ((z7.wr R2).keep K4)
  exact o_retA W4 hlk (v := (.ref gO2)) hret rfl rfl (hb hy d3_17) (by decide) (by decide) ⟨c5, rfl⟩
theorem rm157 (l : Launch) {Z a0} (hw : HW Z a0)  (h0 : Heap) (O0 : Old Z Z.heap.size h0) :
    CtrN l Z mn8 method_2_code 1 (some .long) [] (⟨0, 0, 0, 0⟩ : Room) #[(.int 6)] h0 [] (fun v h => v = some (.long 10)) := by
  refine CtrN.intro (L0 := #[vi 6]) (plainFor_of_name pn3) O0 (fun _ => rfl) ?_
  intro p e s m below meth c T0 hy hml hret hlk hnm W0
  refine o_iloadN W0 1 (hb hy d11_0) rfl rfl <| o_iconst W0 (v := 1) 2 (hb hy d11_1) rfl rfl <| o_icmpY W0 7 (hb hy d11_2) (XT.ii_ne_t (by decide)) (by decide) rfl <| o_iloadN W0 8 (hb hy d11_7) rfl rfl <| o_iconst W0 (v := 2) 9 (hb hy d11_8) rfl rfl <| o_icmpY W0 16 (hb hy d11_9) (XT.ii_ne_t (by decide)) (by decide) rfl ?_
  refine o_iloadN W0 17 (hb hy d11_16) rfl rfl <| o_iconst W0 (v := 3) 18 (hb hy d11_17) rfl rfl <| o_icmpY W0 25 (hb hy d11_18) (XT.ii_ne_t (by decide)) (by decide) rfl <| o_iloadN W0 26 (hb hy d11_25) rfl rfl <| o_iconst W0 (v := 4) 27 (hb hy d11_26) rfl rfl <| o_icmpY W0 34 (hb hy d11_27) (XT.ii_ne_t (by decide)) (by decide) rfl ?_
  refine o_ldcJ W0 (w345 hw) 37 (hb hy d11_34) rfl ?_
  exact o_retJ W0 hlk hret (hb hy d11_37) (by decide) (by decide) rfl
theorem rm158 (l : Launch) {Z a0} (hw : HW Z a0) (gO2 : Addr) (h0 : Heap) (O0 : Old Z Z.heap.size h0) (z0 : Fld Z Z.heap gO2 s2 "seconds" "J" (.long 10)) (XgO2 : Exa Z Z.heap gO2 s2) (z1 : Fld Z Z.heap gO2 s2 "nanos" "I" iZ) :
    CtrN l Z mn10 method_3_code 2 (some .boolean) [] (⟨1, 0, 0, 14⟩ : Room) #[(.ref gO2), (.int 6)] h0 [] (fun v h => v = some (.int 1)) := by
  refine CtrN.intro (L0 := #[vr gO2, vi 6]) (plainFor_of_name pn3) O0 (fun _ => rfl) ?_
  intro p e s m below meth c T0 hy hml hret hlk hnm W0
  refine o_aloadN W0 1 (hb hy d9_0) rfl rfl rfl ?_
  refine o_ifnullN W0 4 (hb hy d9_1) rfl ?_
  refine o_aloadN W0 5 (hb hy d9_4) rfl rfl rfl ?_
  refine o_virtualC W0 (w48 hw) (w49 hw) (o_nf W0 rfl (w51 hw)) (w51 hw) (w50 hw) (by decide) (XgO2.ext W0.ox) (w52 hw) (w29 hw) (rm150 l hw gO2 h0 W0.old z0) 0 0 0 (by decide) (by rw [hml]; rfl) (lenOf pd7 rfl) [] rfl rfl 8 (hb hy d9_5) rfl rfl rfl all0 tri ?_
  intro v1 T1 h1 lo1 W1 K1 q1
  obtain rfl := q1.2.2
  show Gl _ _ _ _ _ _ _ _ [(.long 10)]
  refine o_iloadN W1 9 (hb hy d9_8) rfl rfl ?_
  refine o_staticC W1 (w53 hw) (w54 hw) (w46 hw) (w55 hw) (by decide) (rm157 l hw  h1 W1.old ) 2 0 0 (by decide) (by rw [hml]; rfl) (lenOf pd8 rfl) [(.long 10)] rfl rfl 12 (hb hy d9_9) rfl rfl rfl all0 tri ?_
  intro v2 T2 h2 lo2 W2 K2 q2
  obtain rfl := q2.2.2
  show Gl _ _ _ _ _ _ _ _ [(.long 10), (.long 10)]
  refine o_lcmp W2 (v := 0) 13 (hb hy d9_12) (by decide) rfl <| o_ifN W2 16 (hb hy d9_13) (XT.i0_ne_f (by decide)) rfl <| o_aloadN W2 17 (hb hy d9_16) rfl rfl rfl ?_
  refine o_virtualC W2 (w56 hw) (w57 hw) (o_nf W2 rfl (w59 hw)) (w59 hw) (w58 hw) (by decide) (XgO2.ext W2.ox) (w60 hw) (w29 hw) (rm152 l hw gO2 h2 W2.old z1) 0 0 0 (by decide) (by rw [hml]; rfl) (lenOf pd9 rfl) [] rfl rfl 20 (hb hy d9_17) rfl rfl rfl all0 tri ?_
  intro v3 T3 h3 lo3 W3 K3 q3
  obtain rfl := q3.2.2
  show Gl _ _ _ _ _ _ _ _ [iZ]
  refine o_ifN W3 23 (hb hy d9_20) (XT.i0_ne_f (by decide)) rfl <| o_iconst W3 (v := 1) 24 (hb hy d9_23) rfl rfl <| o_goto W3 28 (hb hy d9_24) (by decide) rfl ?_
  exact o_retN W3 hlk (t := .boolean) hret (by simp) (z' := (1 : Int32)) (by decide) (hb hy d9_28) (by decide) (by decide) rfl
theorem rm159 (l : Launch) {Z a0} (hw : HW Z a0) (a1 : Addr) (h0 : Heap) (O0 : Old Z Z.heap.size h0) (z0 : Exa Z h0 a1 s6) (z1 : Fld Z h0 a1 s6 s11 "I" (.int 4)) (z2 : Z.heap.size ≤ a1) :
    CtrN l Z mn65 prog_3_method_4_code 1 none [] (⟨0, 0, 0, 0⟩ : Room) #[(.ref a1)] h0 [a1] (fun v h => Fld Z h a1 s6 s11 "I" iZ ∧ v = none) := by
  refine CtrN.intro (L0 := #[vr a1]) (plainFor_of_name pn0) O0 (fun _ => rfl) ?_
  intro p e s m below meth c T0 hy hml hret hlk hnm W0
  refine o_aloadN W0 1 (hb hy d67_0) rfl rfl rfl <| o_iconst W0 (v := 0) 2 (hb hy d67_1) rfl rfl ?_
  refine o_putF W0 (w14 hw) Via.refl z1 z0 (Or.inl (w15 hw)) (w1 hw) (ty := .int) (v' := iZ) (by decide) rfl rfl z2 m0 tri 5 (hb hy d67_2) rfl ?_
  intro T1 h1 lo1 W1 R1
  have F1 := z1.same R1
  have c2 := (z0.wr R1)
  exact o_ret0 W1 hlk hret (hb hy d67_5) (by decide) (by decide) ⟨F1, rfl⟩
theorem rm160 (l : Launch) {Z a0} (hw : HW Z a0) (a1 : Addr) (h0 : Heap) (O0 : Old Z Z.heap.size h0) (z0 : Exa Z h0 a1 s6) (z1 : Fld Z h0 a1 s6 s11 "I" (.int 3)) (z2 : Z.heap.size ≤ a1) :
    CtrN l Z mn65 prog_3_method_4_code 1 none [] (⟨0, 0, 0, 0⟩ : Room) #[(.ref a1)] h0 [a1] (fun v h => Fld Z h a1 s6 s11 "I" iZ ∧ v = none) := by
  refine CtrN.intro (L0 := #[vr a1]) (plainFor_of_name pn0) O0 (fun _ => rfl) ?_
  intro p e s m below meth c T0 hy hml hret hlk hnm W0
  refine o_aloadN W0 1 (hb hy d67_0) rfl rfl rfl <| o_iconst W0 (v := 0) 2 (hb hy d67_1) rfl rfl ?_
  refine o_putF W0 (w14 hw) Via.refl z1 z0 (Or.inl (w15 hw)) (w1 hw) (ty := .int) (v' := iZ) (by decide) rfl rfl z2 m0 tri 5 (hb hy d67_2) rfl ?_
  intro T1 h1 lo1 W1 R1
  have F1 := z1.same R1
  have c2 := (z0.wr R1)
  exact o_ret0 W1 hlk hret (hb hy d67_5) (by decide) (by decide) ⟨F1, rfl⟩
theorem rm161 (l : Launch) {Z a0} (hw : HW Z a0) (a1 : Addr) (h0 : Heap) (O0 : Old Z Z.heap.size h0) (z0 : Exa Z h0 a1 s6) (z1 : Fld Z h0 a1 s6 s11 "I" (.int 1)) (z2 : Z.heap.size ≤ a1) :
    CtrN l Z mn65 prog_3_method_4_code 1 none [] (⟨0, 0, 0, 0⟩ : Room) #[(.ref a1)] h0 [a1] (fun v h => Fld Z h a1 s6 s11 "I" iZ ∧ v = none) := by
  refine CtrN.intro (L0 := #[vr a1]) (plainFor_of_name pn0) O0 (fun _ => rfl) ?_
  intro p e s m below meth c T0 hy hml hret hlk hnm W0
  refine o_aloadN W0 1 (hb hy d67_0) rfl rfl rfl <| o_iconst W0 (v := 0) 2 (hb hy d67_1) rfl rfl ?_
  refine o_putF W0 (w14 hw) Via.refl z1 z0 (Or.inl (w15 hw)) (w1 hw) (ty := .int) (v' := iZ) (by decide) rfl rfl z2 m0 tri 5 (hb hy d67_2) rfl ?_
  intro T1 h1 lo1 W1 R1
  have F1 := z1.same R1
  have c2 := (z0.wr R1)
  exact o_ret0 W1 hlk hret (hb hy d67_5) (by decide) (by decide) ⟨F1, rfl⟩
theorem rm162 (l : Launch) {Z a0} (hw : HW Z a0) (a1 : Addr) (h0 : Heap) (O0 : Old Z Z.heap.size h0) (z0 : Exa Z h0 a1 s6) (z1 : Fld Z h0 a1 s6 s11 "I" (.int 2)) (z2 : Z.heap.size ≤ a1) :
    CtrN l Z mn65 prog_3_method_4_code 1 none [] (⟨0, 0, 0, 0⟩ : Room) #[(.ref a1)] h0 [a1] (fun v h => Fld Z h a1 s6 s11 "I" iZ ∧ v = none) := by
  refine CtrN.intro (L0 := #[vr a1]) (plainFor_of_name pn0) O0 (fun _ => rfl) ?_
  intro p e s m below meth c T0 hy hml hret hlk hnm W0
  refine o_aloadN W0 1 (hb hy d67_0) rfl rfl rfl <| o_iconst W0 (v := 0) 2 (hb hy d67_1) rfl rfl ?_
  refine o_putF W0 (w14 hw) Via.refl z1 z0 (Or.inl (w15 hw)) (w1 hw) (ty := .int) (v' := iZ) (by decide) rfl rfl z2 m0 tri 5 (hb hy d67_2) rfl ?_
  intro T1 h1 lo1 W1 R1
  have F1 := z1.same R1
  have c2 := (z0.wr R1)
  exact o_ret0 W1 hlk hret (hb hy d67_5) (by decide) (by decide) ⟨F1, rfl⟩
theorem rm_law (l : Launch) {Z a0} (hw : HW Z a0) (gO1 gO2 gO3 gO4 gO7 gO10 gO13 gO16 gO19 gO22 gO25 gO28 gO31 gO34 gO37 gO38 gO41 gO44 gO47 gO50 gO53 gO56 gO59 gO62 gO65 gO68 gO71 gO74 gO77 gO80 gO83 gO86 gO87 gO88 gO89 gO90 gO91 : Addr) (z0 z1 z2 z3 z4 z5 : ClassId) (p0 : Int32) (h0 : Heap) (O0 : Old Z Z.heap.size h0) (z6 : Sta Z Z.heap s6 "FIRST" s9 (.ref gO1)) (XgO1 : Exa Z Z.heap gO1 s2) (z7 : Sta Z Z.heap s6 "MAX" s9 (.ref gO2)) (z8 : Fld Z Z.heap gO1 s2 "seconds" "J" (.long 1)) (z9 : Fld Z Z.heap gO2 s2 "seconds" "J" (.long 10)) (z10 : Fld Z Z.heap gO1 s2 "nanos" "I" iZ) (z11 : Sta Z Z.heap s0 s12 s7 (.ref gO3)) (VgO3 : Arv Z Z.heap gO3 z0 (.object s0) (11 : Int32) [(.ref gO4), (.ref gO7), (.ref gO10), (.ref gO13), (.ref gO16), (.ref gO19), (.ref gO22), (.ref gO25), (.ref gO28), (.ref gO31), (.ref gO34)] .null) (z12 : Sta Z Z.heap s0 s16 s7 (.ref gO37)) (VgO37 : Arv Z Z.heap gO37 z1 (.object s0) (16 : Int32) [(.ref gO38), (.ref gO41), (.ref gO44), (.ref gO47), (.ref gO50), (.ref gO53), (.ref gO56), (.ref gO59), (.ref gO62), (.ref gO65), (.ref gO68), (.ref gO71), (.ref gO74), (.ref gO77), (.ref gO80), (.ref gO83)] .null) (z13 : Fld Z Z.heap gO7 s0 s4 "J" (.long 1)) (z14 : Fld Z Z.heap gO65 s0 s4 "J" (.long 0)) (z15 : Fld Z Z.heap gO7 s0 "scale" "I" iZ) (z16 : Fld Z Z.heap gO65 s0 "scale" "I" (.int 9)) (z17 : Sta Z Z.heap s0 s13 "[J" (.ref gO86)) (z18 : Sta Z Z.heap s0 s14 "[J" (.ref gO87)) (VgO86 : Arv Z Z.heap gO86 z2 .long (19 : Int32) [(.long 1), (.long 10), (.long 100), (.long 1000), (.long 10000), (.long 100000), (.long 1000000), (.long 10000000), (.long 100000000), (.long 1000000000), (.long 10000000000), (.long 100000000000), (.long 1000000000000), (.long 10000000000000), (.long 100000000000000), (.long 1000000000000000), (.long 10000000000000000), (.long 100000000000000000), (.long 1000000000000000000)] (.long 0)) (VgO87 : Arv Z Z.heap gO87 z3 .long (19 : Int32) [(.long 9223372036854775807), (.long 922337203685477580), (.long 92233720368547758), (.long 9223372036854775), (.long 922337203685477), (.long 92233720368547), (.long 9223372036854), (.long 922337203685), (.long 92233720368), (.long 9223372036), (.long 922337203), (.long 92233720), (.long 9223372), (.long 922337), (.long 92233), (.long 9223), (.long 922), (.long 92), (.long 9)] (.long 0)) (XgO7 : Exa Z Z.heap gO7 s0) (z19 : Fld Z Z.heap gO10 s0 "scale" "I" iZ) (z20 : Fld Z Z.heap gO10 s0 s4 "J" (.long 2)) (z21 : Sta Z Z.heap s2 s15 s5 (.ref gO88)) (z22 : Fld Z Z.heap gO88 s1 "mag" "[I" (.ref gO89)) (VgO89 : Arv Z Z.heap gO89 z4 .int (1 : Int32) [(.int 1000000000)] iZ) (z23 : Fld Z Z.heap gO88 s1 "signum" "I" (.int 1)) (z24 : Sta Z Z.heap s1 "ZERO" s5 (.ref gO90)) (XgO90 : Exa Z Z.heap gO90 s1) (z25 : Fld Z Z.heap gO90 s1 "mag" "[I" (.ref gO91)) (VgO91 : Arv Z Z.heap gO91 z5 .int (0 : Int32) [] iZ) (z26 : Fld Z Z.heap gO90 s1 "signum" "I" iZ) (z27 : Fld Z Z.heap gO16 s0 "scale" "I" iZ) (z28 : Fld Z Z.heap gO16 s0 s4 "J" (.long 4)) (z29 : Fld Z Z.heap gO28 s0 "scale" "I" iZ) (z30 : Fld Z Z.heap gO28 s0 s4 "J" (.long 8)) (XgO2 : Exa Z Z.heap gO2 s2) (z31 : Fld Z Z.heap gO2 s2 "nanos" "I" iZ) :
    CtrN l Z x code maxLocals ret tables_1 room_1 #[(.int p0)] h0 [] (fun v _ => v = some (.int 1)) := by
  refine CtrN.intro (L0 := #[vi p0, un, un, un]) (plainFor_of_name pn3) O0 (fun _ => rfl) ?_
  intro p e s m below meth c T0 hy hml hret hlk hnm W0
  refine o_new W0 (w0 hw) (w1 hw) (w2 hw) tri 3 (hb hy at_0) rfl (cells' := 1) (slots' := 1) rfl rfl (by decide) (by decide) ?_
  intro b1 T1 h1 W1 E1 ge1 gz1 gb1 A1 D1
  have Fb1_failures : Fld Z h1 b1 s6 s11 "I" iZ := D1 (Or.inl (w15 hw)) (ty := .int) (by decide)
  refine o_dup W1 4 (hb hy at_3) rfl rfl ?_
  refine o_specialC W1 rfl (w3 hw) (w4 hw) (w5 hw) (by decide) (w2 hw) (rm1 l hw b1 h1 W1.old ) 1 1 1 (by decide) (by rw [hml]; rfl) (lenOf pd0 rfl) [(.ref b1)] rfl rfl 7 (hb hy at_4) rfl rfl rfl all0 tri ?_
  intro v2 T2 h2 lo2 W2 K2 q2
  obtain rfl := q2.2.2
  show Gl _ _ _ _ _ _ _ _ [(.ref b1)]
  refine o_astoreN W2 (L' := #[vi p0, vr b1, un, un]) 8 (hb hy at_7) rfl rfl rfl <| o_iconst W2 (v := 1) 9 (hb hy at_8) rfl rfl <| o_istoreN W2 (L' := #[vi p0, vr b1, vi 1, un]) 10 (hb hy at_9) rfl rfl <| o_iconst W2 (v := 1) 11 (hb hy at_10) rfl rfl <| o_istoreN W2 (L' := #[vi p0, vr b1, vi 1, vi 1]) 12 (hb hy at_11) rfl rfl <| o_iloadN W2 13 (hb hy at_12) rfl rfl ?_
  refine o_ifN W2 16 (hb hy at_13) (XT.i0_eq_f (by decide)) rfl <| o_aloadN W2 17 (hb hy at_16) rfl rfl rfl ?_
  have c3 := (Fb1_failures.keep K2 nin0)
  have c4 := (A1.keep K2)
  refine o_virtualC W2 (w9 hw) (w10 hw) (o_nf W2 rfl (w12 hw)) (w12 hw) (w11 hw) (by decide) c4 (w13 hw) (w2 hw) (rm7 l hw gO1 gO2 b1 h2 W2.old c3 c4 gz1 z6 XgO1 z7 z8 z9) 0 1 1 (by decide) (by rw [hml]; rfl) (lenOf pd6 rfl) [] rfl rfl 20 (hb hy at_17) rfl rfl rfl (allS ⟨gz1, (Or.inr gb1)⟩ all0) tri ?_
  intro v5 T5 h5 lo5 W5 K5 q5
  obtain ⟨P5_0, rfl⟩ := q5.2.2
  show Gl _ _ _ _ _ _ _ _ [(.ref gO1)]
  refine o_iloadN W5 21 (hb hy at_20) rfl rfl ?_
  refine o_staticC W5 (w44 hw) (w45 hw) (w46 hw) (w47 hw) (by decide) (rm11 l hw gO1 h5 W5.old z8 XgO1 z10) 0 1 1 (by decide) (by rw [hml]; rfl) (lenOf pd10 rfl) [] rfl rfl 24 (hb hy at_21) rfl rfl rfl all0 tri ?_
  intro v6 T6 h6 lo6 W6 K6 q6
  obtain rfl := q6.2.2
  show Gl _ _ _ _ _ _ _ _ [(.int 1)]
  refine o_ifN W6 27 (hb hy at_24) (XT.i0_eq_f (by decide)) rfl <| o_iconst W6 (v := 1) 28 (hb hy at_27) rfl rfl <| o_goto W6 32 (hb hy at_28) (by decide) rfl <| o_istoreN W6 (L' := #[vi p0, vr b1, vi 1, vi 1]) 33 (hb hy at_32) rfl rfl <| o_iloadN W6 34 (hb hy at_33) rfl rfl <| o_iconst W6 (v := 1) 35 (hb hy at_34) rfl rfl ?_
  refine o_iand W6 (v := (p0 &&& 1)) 36 (hb hy at_35) rfl rfl ?_
  by_cases hq7 : (p0 &&& 1) = (0 : Int32)
  · refine o_ifY W6 45 (hb hy at_36) (XT.i0_eq_t hq7) (by decide) rfl <| o_iloadN W6 46 (hb hy at_45) rfl rfl <| o_iconst W6 (v := 1) 47 (hb hy at_46) rfl rfl <| o_iadd W6 (v := 2) 48 (hb hy at_47) (by decide) rfl <| o_istoreN W6 (L' := #[vi p0, vr b1, vi 1, vi 2]) 49 (hb hy at_48) rfl rfl <| o_iloadN W6 50 (hb hy at_49) rfl rfl ?_
    refine o_ifN W6 53 (hb hy at_50) (XT.i0_eq_f (by decide)) rfl <| o_aloadN W6 54 (hb hy at_53) rfl rfl rfl ?_
    have c8 := (P5_0.keep K6 nin0)
    have c9 := ((c4.keep K5).keep K6)
    refine o_virtualC W6 (w9 hw) (w10 hw) (o_nf W6 rfl (w12 hw)) (w12 hw) (w11 hw) (by decide) c9 (w13 hw) (w2 hw) (rm76 l hw gO1 gO2 gO3 gO4 gO7 gO10 gO13 gO16 gO19 gO22 gO25 gO28 gO31 gO34 gO37 gO38 gO41 gO44 gO47 gO50 gO53 gO56 gO59 gO62 gO65 gO68 gO71 gO74 gO77 gO80 gO83 gO86 gO87 gO88 gO89 gO90 gO91 z0 z1 z2 z3 z4 z5 b1 h6 W6.old c8 c9 gz1 z6 z8 z11 VgO3 z10 z12 VgO37 z13 z14 z15 z16 z17 z18 VgO86 VgO87 XgO7 XgO1 z19 z20 z21 z22 VgO89 z23 z24 XgO90 z25 VgO91 z26 z7 z9) 0 15 47 (by decide) (by rw [hml]; rfl) (lenOf pd6 rfl) [] rfl rfl 57 (hb hy at_54) rfl rfl rfl (allS ⟨gz1, (Or.inr gb1)⟩ all0) tri ?_
    intro v10 T10 h10 lo10 W10 K10 q10
    obtain ⟨r1_10, P10_0, P10_1, P10_2, P10_3, P10_4, rfl⟩ := q10.2.2
    show Gl _ _ _ _ _ _ _ _ [(.ref r1_10)]
    refine o_iloadN W10 58 (hb hy at_57) rfl rfl ?_
    refine o_staticC W10 (w44 hw) (w45 hw) (w46 hw) (w47 hw) (by decide) (rm80 l hw r1_10 h10 W10.old P10_2 P10_3 P10_4) 0 15 47 (by decide) (by rw [hml]; rfl) (lenOf pd10 rfl) [] rfl rfl 61 (hb hy at_58) rfl rfl rfl all0 tri ?_
    intro v11 T11 h11 lo11 W11 K11 q11
    obtain rfl := q11.2.2
    show Gl _ _ _ _ _ _ _ _ [(.int 1)]
    refine o_ifN W11 64 (hb hy at_61) (XT.i0_eq_f (by decide)) rfl <| o_iconst W11 (v := 1) 65 (hb hy at_64) rfl rfl <| o_goto W11 69 (hb hy at_65) (by decide) rfl <| o_istoreN W11 (L' := #[vi p0, vr b1, vi 1, vi 2]) 70 (hb hy at_69) rfl rfl <| o_iloadN W11 71 (hb hy at_70) rfl rfl <| o_iconst W11 (v := 2) 72 (hb hy at_71) rfl rfl ?_
    refine o_iand W11 (v := (p0 &&& 2)) 73 (hb hy at_72) rfl rfl ?_
    by_cases hq12 : (p0 &&& 2) = (0 : Int32)
    · refine o_ifY W11 82 (hb hy at_73) (XT.i0_eq_t hq12) (by decide) rfl <| o_iloadN W11 83 (hb hy at_82) rfl rfl <| o_iconst W11 (v := 1) 84 (hb hy at_83) rfl rfl <| o_iadd W11 (v := 3) 85 (hb hy at_84) (by decide) rfl <| o_istoreN W11 (L' := #[vi p0, vr b1, vi 1, vi 3]) 86 (hb hy at_85) rfl rfl <| o_iloadN W11 87 (hb hy at_86) rfl rfl ?_
      refine o_ifN W11 90 (hb hy at_87) (XT.i0_eq_f (by decide)) rfl <| o_aloadN W11 91 (hb hy at_90) rfl rfl rfl ?_
      have c13 := (P10_1.keep K11 nin0)
      have c14 := ((c9.keep K10).keep K11)
      refine o_virtualC W11 (w9 hw) (w10 hw) (o_nf W11 rfl (w12 hw)) (w12 hw) (w11 hw) (by decide) c14 (w13 hw) (w2 hw) (rm95 l hw gO1 gO2 gO3 gO4 gO7 gO10 gO13 gO16 gO19 gO22 gO25 gO28 gO31 gO34 gO37 gO38 gO41 gO44 gO47 gO50 gO53 gO56 gO59 gO62 gO65 gO68 gO71 gO74 gO77 gO80 gO83 gO86 gO87 gO88 gO89 gO90 gO91 z0 z1 z2 z3 z4 z5 b1 h11 W11.old c13 c14 gz1 z6 z8 z11 VgO3 z10 z12 VgO37 z13 z14 z15 z16 z17 z18 VgO86 VgO87 XgO7 XgO1 z27 z28 z21 z22 VgO89 z23 z24 XgO90 z25 VgO91 z26 z7 z9) 0 29 93 (by decide) (by rw [hml]; rfl) (lenOf pd6 rfl) [] rfl rfl 94 (hb hy at_91) rfl rfl rfl (allS ⟨gz1, (Or.inr gb1)⟩ all0) tri ?_
      intro v15 T15 h15 lo15 W15 K15 q15
      obtain ⟨r1_15, P15_0, P15_1, P15_2, P15_3, P15_4, rfl⟩ := q15.2.2
      show Gl _ _ _ _ _ _ _ _ [(.ref r1_15)]
      refine o_iloadN W15 95 (hb hy at_94) rfl rfl ?_
      refine o_staticC W15 (w44 hw) (w45 hw) (w46 hw) (w47 hw) (by decide) (rm98 l hw r1_15 h15 W15.old P15_2 P15_3 P15_4) 0 29 93 (by decide) (by rw [hml]; rfl) (lenOf pd10 rfl) [] rfl rfl 98 (hb hy at_95) rfl rfl rfl all0 tri ?_
      intro v16 T16 h16 lo16 W16 K16 q16
      obtain rfl := q16.2.2
      show Gl _ _ _ _ _ _ _ _ [(.int 1)]
      refine o_ifN W16 101 (hb hy at_98) (XT.i0_eq_f (by decide)) rfl <| o_iconst W16 (v := 1) 102 (hb hy at_101) rfl rfl <| o_goto W16 106 (hb hy at_102) (by decide) rfl <| o_istoreN W16 (L' := #[vi p0, vr b1, vi 1, vi 3]) 107 (hb hy at_106) rfl rfl <| o_iloadN W16 108 (hb hy at_107) rfl rfl <| o_iconst W16 (v := 4) 109 (hb hy at_108) rfl rfl ?_
      refine o_iand W16 (v := (p0 &&& 4)) 110 (hb hy at_109) rfl rfl ?_
      by_cases hq17 : (p0 &&& 4) = (0 : Int32)
      · refine o_ifY W16 119 (hb hy at_110) (XT.i0_eq_t hq17) (by decide) rfl <| o_iloadN W16 120 (hb hy at_119) rfl rfl <| o_iconst W16 (v := 1) 121 (hb hy at_120) rfl rfl <| o_iadd W16 (v := 4) 122 (hb hy at_121) (by decide) rfl <| o_istoreN W16 (L' := #[vi p0, vr b1, vi 1, vi 4]) 123 (hb hy at_122) rfl rfl <| o_iloadN W16 124 (hb hy at_123) rfl rfl ?_
        refine o_ifN W16 127 (hb hy at_124) (XT.i0_eq_f (by decide)) rfl <| o_aloadN W16 128 (hb hy at_127) rfl rfl rfl ?_
        have c18 := (P15_1.keep K16 nin0)
        have c19 := ((c14.keep K15).keep K16)
        refine o_virtualC W16 (w9 hw) (w10 hw) (o_nf W16 rfl (w12 hw)) (w12 hw) (w11 hw) (by decide) c19 (w13 hw) (w2 hw) (rm130 l hw gO1 gO2 gO3 gO4 gO7 gO10 gO13 gO16 gO19 gO22 gO25 gO28 gO31 gO34 gO37 gO38 gO41 gO44 gO47 gO50 gO53 gO56 gO59 gO62 gO65 gO68 gO71 gO74 gO77 gO80 gO83 gO86 gO87 gO88 gO89 gO90 gO91 z0 z1 z2 z3 z4 z5 b1 h16 W16.old c18 c19 gz1 z6 z8 z11 VgO3 z10 z12 VgO37 z13 z14 z15 z16 z17 z18 VgO86 VgO87 XgO7 XgO1 z29 z30 z21 z22 VgO89 z23 z24 XgO90 z25 VgO91 z26 z7 z9) 0 45 143 (by decide) (by rw [hml]; rfl) (lenOf pd6 rfl) [] rfl rfl 131 (hb hy at_128) rfl rfl rfl (allS ⟨gz1, (Or.inr gb1)⟩ all0) tri ?_
        intro v20 T20 h20 lo20 W20 K20 q20
        obtain ⟨r1_20, P20_0, P20_1, P20_2, P20_3, P20_4, rfl⟩ := q20.2.2
        show Gl _ _ _ _ _ _ _ _ [(.ref r1_20)]
        refine o_iloadN W20 132 (hb hy at_131) rfl rfl ?_
        refine o_staticC W20 (w44 hw) (w45 hw) (w46 hw) (w47 hw) (by decide) (rm133 l hw r1_20 h20 W20.old P20_2 P20_3 P20_4) 0 45 143 (by decide) (by rw [hml]; rfl) (lenOf pd10 rfl) [] rfl rfl 135 (hb hy at_132) rfl rfl rfl all0 tri ?_
        intro v21 T21 h21 lo21 W21 K21 q21
        obtain rfl := q21.2.2
        show Gl _ _ _ _ _ _ _ _ [(.int 1)]
        refine o_ifN W21 138 (hb hy at_135) (XT.i0_eq_f (by decide)) rfl <| o_iconst W21 (v := 1) 139 (hb hy at_138) rfl rfl <| o_goto W21 143 (hb hy at_139) (by decide) rfl <| o_istoreN W21 (L' := #[vi p0, vr b1, vi 1, vi 4]) 144 (hb hy at_143) rfl rfl <| o_iloadN W21 145 (hb hy at_144) rfl rfl <| o_bipush W21 (v := 8) 147 (hb hy at_145) (by decide) rfl ?_
        refine o_iand W21 (v := (p0 &&& 8)) 148 (hb hy at_147) rfl rfl ?_
        by_cases hq22 : (p0 &&& 8) = (0 : Int32)
        · refine o_ifY W21 157 (hb hy at_148) (XT.i0_eq_t hq22) (by decide) rfl <| o_iloadN W21 158 (hb hy at_157) rfl rfl <| o_iconst W21 (v := 1) 159 (hb hy at_158) rfl rfl <| o_iadd W21 (v := 5) 160 (hb hy at_159) (by decide) rfl <| o_istoreN W21 (L' := #[vi p0, vr b1, vi 1, vi 5]) 161 (hb hy at_160) rfl rfl <| o_iloadN W21 162 (hb hy at_161) rfl rfl ?_
          refine o_ifN W21 165 (hb hy at_162) (XT.i0_eq_f (by decide)) rfl <| o_aloadN W21 166 (hb hy at_165) rfl rfl rfl ?_
          have c23 := (P20_1.keep K21 nin0)
          have c24 := ((c19.keep K20).keep K21)
          refine o_virtualC W21 (w9 hw) (w10 hw) (o_nf W21 rfl (w12 hw)) (w12 hw) (w11 hw) (by decide) c24 (w13 hw) (w2 hw) (rm149 l hw gO1 gO2 gO3 gO4 gO7 gO10 gO13 gO16 gO19 gO22 gO25 gO28 gO31 gO34 gO37 gO38 gO41 gO44 gO47 gO50 gO53 gO56 gO59 gO62 gO65 gO68 gO71 gO74 gO77 gO80 gO83 gO86 gO87 gO88 gO89 gO90 gO91 z0 z1 z2 z3 z4 z5 b1 h21 W21.old c23 c24 gz1 z6 z8 z11 VgO3 z10 z12 VgO37 z13 z14 z15 z16 z17 z18 VgO86 VgO87 XgO7 XgO1 z21 z22 VgO89 z23 z24 XgO90 z25 VgO91 z26 z7 z9) 0 62 198 (by decide) (by rw [hml]; rfl) (lenOf pd6 rfl) [] rfl rfl 169 (hb hy at_166) rfl rfl rfl (allS ⟨gz1, (Or.inr gb1)⟩ all0) tri ?_
          intro v25 T25 h25 lo25 W25 K25 q25
          obtain ⟨P25_0, rfl⟩ := q25.2.2
          show Gl _ _ _ _ _ _ _ _ [(.ref gO2)]
          refine o_iloadN W25 170 (hb hy at_169) rfl rfl ?_
          refine o_staticC W25 (w44 hw) (w45 hw) (w46 hw) (w47 hw) (by decide) (rm153 l hw gO2 h25 W25.old z9 XgO2 z31) 0 62 198 (by decide) (by rw [hml]; rfl) (lenOf pd10 rfl) [] rfl rfl 173 (hb hy at_170) rfl rfl rfl all0 tri ?_
          intro v26 T26 h26 lo26 W26 K26 q26
          obtain rfl := q26.2.2
          show Gl _ _ _ _ _ _ _ _ [(.int 1)]
          refine o_ifN W26 176 (hb hy at_173) (XT.i0_eq_f (by decide)) rfl <| o_iconst W26 (v := 1) 177 (hb hy at_176) rfl rfl <| o_goto W26 181 (hb hy at_177) (by decide) rfl <| o_istoreN W26 (L' := #[vi p0, vr b1, vi 1, vi 5]) 182 (hb hy at_181) rfl rfl <| o_iloadN W26 183 (hb hy at_182) rfl rfl <| o_iconst W26 (v := 1) 184 (hb hy at_183) rfl rfl ?_
          refine o_iadd W26 (v := 6) 185 (hb hy at_184) (by decide) rfl <| o_istoreN W26 (L' := #[vi p0, vr b1, vi 1, vi 6]) 186 (hb hy at_185) rfl rfl <| o_iloadN W26 187 (hb hy at_186) rfl rfl <| o_ifN W26 190 (hb hy at_187) (XT.i0_eq_f (by decide)) rfl <| o_aloadN W26 191 (hb hy at_190) rfl rfl rfl ?_
          have c27 := (P25_0.keep K26 nin0)
          have c28 := ((c24.keep K25).keep K26)
          refine o_virtualC W26 (w9 hw) (w10 hw) (o_nf W26 rfl (w12 hw)) (w12 hw) (w11 hw) (by decide) c28 (w13 hw) (w2 hw) (rm156 l hw gO1 gO2 gO3 gO4 gO7 gO10 gO13 gO16 gO19 gO22 gO25 gO28 gO31 gO34 gO37 gO38 gO41 gO44 gO47 gO50 gO53 gO56 gO59 gO62 gO65 gO68 gO71 gO74 gO77 gO80 gO83 gO86 gO87 gO88 gO89 gO90 gO91 z0 z1 z2 z3 z4 z5 b1 h26 W26.old c27 c28 gz1 z6 z8 z11 VgO3 z10 z12 VgO37 z13 z14 z15 z16 z17 z18 VgO86 VgO87 XgO7 XgO1 z21 z22 VgO89 z23 z24 XgO90 z25 VgO91 z26 z7 z9) 0 79 253 (by decide) (by rw [hml]; rfl) (lenOf pd6 rfl) [] rfl rfl 194 (hb hy at_191) rfl rfl rfl (allS ⟨gz1, (Or.inr gb1)⟩ all0) tri ?_
          intro v29 T29 h29 lo29 W29 K29 q29
          obtain ⟨P29_0, rfl⟩ := q29.2.2
          show Gl _ _ _ _ _ _ _ _ [(.ref gO2)]
          refine o_iloadN W29 195 (hb hy at_194) rfl rfl ?_
          refine o_staticC W29 (w44 hw) (w45 hw) (w46 hw) (w47 hw) (by decide) (rm158 l hw gO2 h29 W29.old z9 XgO2 z31) 0 79 253 (by decide) (by rw [hml]; rfl) (lenOf pd10 rfl) [] rfl rfl 198 (hb hy at_195) rfl rfl rfl all0 tri ?_
          intro v30 T30 h30 lo30 W30 K30 q30
          obtain rfl := q30.2.2
          show Gl _ _ _ _ _ _ _ _ [(.int 1)]
          refine o_ifN W30 201 (hb hy at_198) (XT.i0_eq_f (by decide)) rfl <| o_iconst W30 (v := 1) 202 (hb hy at_201) rfl rfl <| o_goto W30 206 (hb hy at_202) (by decide) rfl <| o_istoreN W30 (L' := #[vi p0, vr b1, vi 1, vi 6]) 207 (hb hy at_206) rfl rfl <| o_iloadN W30 208 (hb hy at_207) rfl rfl ?_
          exact o_retN W30 hlk (t := .boolean) hret (by simp) (z' := (1 : Int32)) (by decide) (hb hy at_208) (by decide) (by decide) rfl
        · refine o_ifN W21 151 (hb hy at_148) (XT.i0_eq_f hq22) rfl <| o_aloadN W21 152 (hb hy at_151) rfl rfl rfl ?_
          have c31 := (P20_1.keep K21 nin0)
          have c32 := ((c19.keep K20).keep K21)
          refine o_virtualC W21 (w346 hw) (w347 hw) (o_nf W21 rfl (w349 hw)) (w349 hw) (w348 hw) (by decide) c32 (w350 hw) (w2 hw) (rm159 l hw b1 h21 W21.old c32 c31 gz1) 0 45 143 (by decide) (by rw [hml]; rfl) (lenOf pd0 rfl) [] rfl rfl 155 (hb hy at_152) rfl rfl rfl (allS ⟨gz1, (Or.inr gb1)⟩ all0) tri ?_
          intro v33 T33 h33 lo33 W33 K33 q33
          obtain ⟨P33_0, rfl⟩ := q33.2.2
          show Gl _ _ _ _ _ _ _ _ []
          refine o_iconst W33 (v := 0) 156 (hb hy at_155) rfl rfl <| o_istoreN W33 (L' := #[vi p0, vr b1, vi 1, vi 0]) 157 (hb hy at_156) rfl rfl <| o_iloadN W33 158 (hb hy at_157) rfl rfl <| o_iconst W33 (v := 1) 159 (hb hy at_158) rfl rfl <| o_iadd W33 (v := 1) 160 (hb hy at_159) (by decide) rfl <| o_istoreN W33 (L' := #[vi p0, vr b1, vi 1, vi 1]) 161 (hb hy at_160) rfl rfl ?_
          refine o_iloadN W33 162 (hb hy at_161) rfl rfl <| o_ifN W33 165 (hb hy at_162) (XT.i0_eq_f (by decide)) rfl <| o_aloadN W33 166 (hb hy at_165) rfl rfl rfl ?_
          have c34 := (c32.keep K33)
          refine o_virtualC W33 (w9 hw) (w10 hw) (o_nf W33 rfl (w12 hw)) (w12 hw) (w11 hw) (by decide) c34 (w13 hw) (w2 hw) (rm7 l hw gO1 gO2 b1 h33 W33.old P33_0 c34 gz1 z6 XgO1 z7 z8 z9) 0 45 143 (by decide) (by rw [hml]; rfl) (lenOf pd6 rfl) [] rfl rfl 169 (hb hy at_166) rfl rfl rfl (allS ⟨gz1, (Or.inr gb1)⟩ all0) tri ?_
          intro v35 T35 h35 lo35 W35 K35 q35
          obtain ⟨P35_0, rfl⟩ := q35.2.2
          show Gl _ _ _ _ _ _ _ _ [(.ref gO1)]
          refine o_iloadN W35 170 (hb hy at_169) rfl rfl ?_
          refine o_staticC W35 (w44 hw) (w45 hw) (w46 hw) (w47 hw) (by decide) (rm11 l hw gO1 h35 W35.old z8 XgO1 z10) 0 45 143 (by decide) (by rw [hml]; rfl) (lenOf pd10 rfl) [] rfl rfl 173 (hb hy at_170) rfl rfl rfl all0 tri ?_
          intro v36 T36 h36 lo36 W36 K36 q36
          obtain rfl := q36.2.2
          show Gl _ _ _ _ _ _ _ _ [(.int 1)]
          refine o_ifN W36 176 (hb hy at_173) (XT.i0_eq_f (by decide)) rfl <| o_iconst W36 (v := 1) 177 (hb hy at_176) rfl rfl <| o_goto W36 181 (hb hy at_177) (by decide) rfl <| o_istoreN W36 (L' := #[vi p0, vr b1, vi 1, vi 1]) 182 (hb hy at_181) rfl rfl <| o_iloadN W36 183 (hb hy at_182) rfl rfl <| o_iconst W36 (v := 1) 184 (hb hy at_183) rfl rfl ?_
          refine o_iadd W36 (v := 2) 185 (hb hy at_184) (by decide) rfl <| o_istoreN W36 (L' := #[vi p0, vr b1, vi 1, vi 2]) 186 (hb hy at_185) rfl rfl <| o_iloadN W36 187 (hb hy at_186) rfl rfl <| o_ifN W36 190 (hb hy at_187) (XT.i0_eq_f (by decide)) rfl <| o_aloadN W36 191 (hb hy at_190) rfl rfl rfl ?_
          have c37 := (P35_0.keep K36 nin0)
          have c38 := ((c34.keep K35).keep K36)
          refine o_virtualC W36 (w9 hw) (w10 hw) (o_nf W36 rfl (w12 hw)) (w12 hw) (w11 hw) (by decide) c38 (w13 hw) (w2 hw) (rm76 l hw gO1 gO2 gO3 gO4 gO7 gO10 gO13 gO16 gO19 gO22 gO25 gO28 gO31 gO34 gO37 gO38 gO41 gO44 gO47 gO50 gO53 gO56 gO59 gO62 gO65 gO68 gO71 gO74 gO77 gO80 gO83 gO86 gO87 gO88 gO89 gO90 gO91 z0 z1 z2 z3 z4 z5 b1 h36 W36.old c37 c38 gz1 z6 z8 z11 VgO3 z10 z12 VgO37 z13 z14 z15 z16 z17 z18 VgO86 VgO87 XgO7 XgO1 z19 z20 z21 z22 VgO89 z23 z24 XgO90 z25 VgO91 z26 z7 z9) 0 59 189 (by decide) (by rw [hml]; rfl) (lenOf pd6 rfl) [] rfl rfl 194 (hb hy at_191) rfl rfl rfl (allS ⟨gz1, (Or.inr gb1)⟩ all0) tri ?_
          intro v39 T39 h39 lo39 W39 K39 q39
          obtain ⟨r1_39, P39_0, P39_1, P39_2, P39_3, P39_4, rfl⟩ := q39.2.2
          show Gl _ _ _ _ _ _ _ _ [(.ref r1_39)]
          refine o_iloadN W39 195 (hb hy at_194) rfl rfl ?_
          refine o_staticC W39 (w44 hw) (w45 hw) (w46 hw) (w47 hw) (by decide) (rm80 l hw r1_39 h39 W39.old P39_2 P39_3 P39_4) 0 59 189 (by decide) (by rw [hml]; rfl) (lenOf pd10 rfl) [] rfl rfl 198 (hb hy at_195) rfl rfl rfl all0 tri ?_
          intro v40 T40 h40 lo40 W40 K40 q40
          obtain rfl := q40.2.2
          show Gl _ _ _ _ _ _ _ _ [(.int 1)]
          refine o_ifN W40 201 (hb hy at_198) (XT.i0_eq_f (by decide)) rfl <| o_iconst W40 (v := 1) 202 (hb hy at_201) rfl rfl <| o_goto W40 206 (hb hy at_202) (by decide) rfl <| o_istoreN W40 (L' := #[vi p0, vr b1, vi 1, vi 2]) 207 (hb hy at_206) rfl rfl <| o_iloadN W40 208 (hb hy at_207) rfl rfl ?_
          exact o_retN W40 hlk (t := .boolean) hret (by simp) (z' := (1 : Int32)) (by decide) (hb hy at_208) (by decide) (by decide) rfl
      · refine o_ifN W16 113 (hb hy at_110) (XT.i0_eq_f hq17) rfl <| o_aloadN W16 114 (hb hy at_113) rfl rfl rfl ?_
        have c41 := (P15_1.keep K16 nin0)
        have c42 := ((c14.keep K15).keep K16)
        refine o_virtualC W16 (w346 hw) (w347 hw) (o_nf W16 rfl (w349 hw)) (w349 hw) (w348 hw) (by decide) c42 (w350 hw) (w2 hw) (rm160 l hw b1 h16 W16.old c42 c41 gz1) 0 29 93 (by decide) (by rw [hml]; rfl) (lenOf pd0 rfl) [] rfl rfl 117 (hb hy at_114) rfl rfl rfl (allS ⟨gz1, (Or.inr gb1)⟩ all0) tri ?_
        intro v43 T43 h43 lo43 W43 K43 q43
        obtain ⟨P43_0, rfl⟩ := q43.2.2
        show Gl _ _ _ _ _ _ _ _ []
        refine o_iconst W43 (v := 0) 118 (hb hy at_117) rfl rfl <| o_istoreN W43 (L' := #[vi p0, vr b1, vi 1, vi 0]) 119 (hb hy at_118) rfl rfl <| o_iloadN W43 120 (hb hy at_119) rfl rfl <| o_iconst W43 (v := 1) 121 (hb hy at_120) rfl rfl <| o_iadd W43 (v := 1) 122 (hb hy at_121) (by decide) rfl <| o_istoreN W43 (L' := #[vi p0, vr b1, vi 1, vi 1]) 123 (hb hy at_122) rfl rfl ?_
        refine o_iloadN W43 124 (hb hy at_123) rfl rfl <| o_ifN W43 127 (hb hy at_124) (XT.i0_eq_f (by decide)) rfl <| o_aloadN W43 128 (hb hy at_127) rfl rfl rfl ?_
        have c44 := (c42.keep K43)
        refine o_virtualC W43 (w9 hw) (w10 hw) (o_nf W43 rfl (w12 hw)) (w12 hw) (w11 hw) (by decide) c44 (w13 hw) (w2 hw) (rm7 l hw gO1 gO2 b1 h43 W43.old P43_0 c44 gz1 z6 XgO1 z7 z8 z9) 0 29 93 (by decide) (by rw [hml]; rfl) (lenOf pd6 rfl) [] rfl rfl 131 (hb hy at_128) rfl rfl rfl (allS ⟨gz1, (Or.inr gb1)⟩ all0) tri ?_
        intro v45 T45 h45 lo45 W45 K45 q45
        obtain ⟨P45_0, rfl⟩ := q45.2.2
        show Gl _ _ _ _ _ _ _ _ [(.ref gO1)]
        refine o_iloadN W45 132 (hb hy at_131) rfl rfl ?_
        refine o_staticC W45 (w44 hw) (w45 hw) (w46 hw) (w47 hw) (by decide) (rm11 l hw gO1 h45 W45.old z8 XgO1 z10) 0 29 93 (by decide) (by rw [hml]; rfl) (lenOf pd10 rfl) [] rfl rfl 135 (hb hy at_132) rfl rfl rfl all0 tri ?_
        intro v46 T46 h46 lo46 W46 K46 q46
        obtain rfl := q46.2.2
        show Gl _ _ _ _ _ _ _ _ [(.int 1)]
        refine o_ifN W46 138 (hb hy at_135) (XT.i0_eq_f (by decide)) rfl <| o_iconst W46 (v := 1) 139 (hb hy at_138) rfl rfl <| o_goto W46 143 (hb hy at_139) (by decide) rfl <| o_istoreN W46 (L' := #[vi p0, vr b1, vi 1, vi 1]) 144 (hb hy at_143) rfl rfl <| o_iloadN W46 145 (hb hy at_144) rfl rfl <| o_bipush W46 (v := 8) 147 (hb hy at_145) (by decide) rfl ?_
        refine o_iand W46 (v := (p0 &&& 8)) 148 (hb hy at_147) rfl rfl ?_
        by_cases hq47 : (p0 &&& 8) = (0 : Int32)
        · refine o_ifY W46 157 (hb hy at_148) (XT.i0_eq_t hq47) (by decide) rfl <| o_iloadN W46 158 (hb hy at_157) rfl rfl <| o_iconst W46 (v := 1) 159 (hb hy at_158) rfl rfl <| o_iadd W46 (v := 2) 160 (hb hy at_159) (by decide) rfl <| o_istoreN W46 (L' := #[vi p0, vr b1, vi 1, vi 2]) 161 (hb hy at_160) rfl rfl <| o_iloadN W46 162 (hb hy at_161) rfl rfl ?_
          refine o_ifN W46 165 (hb hy at_162) (XT.i0_eq_f (by decide)) rfl <| o_aloadN W46 166 (hb hy at_165) rfl rfl rfl ?_
          have c48 := (P45_0.keep K46 nin0)
          have c49 := ((c44.keep K45).keep K46)
          refine o_virtualC W46 (w9 hw) (w10 hw) (o_nf W46 rfl (w12 hw)) (w12 hw) (w11 hw) (by decide) c49 (w13 hw) (w2 hw) (rm76 l hw gO1 gO2 gO3 gO4 gO7 gO10 gO13 gO16 gO19 gO22 gO25 gO28 gO31 gO34 gO37 gO38 gO41 gO44 gO47 gO50 gO53 gO56 gO59 gO62 gO65 gO68 gO71 gO74 gO77 gO80 gO83 gO86 gO87 gO88 gO89 gO90 gO91 z0 z1 z2 z3 z4 z5 b1 h46 W46.old c48 c49 gz1 z6 z8 z11 VgO3 z10 z12 VgO37 z13 z14 z15 z16 z17 z18 VgO86 VgO87 XgO7 XgO1 z19 z20 z21 z22 VgO89 z23 z24 XgO90 z25 VgO91 z26 z7 z9) 0 43 139 (by decide) (by rw [hml]; rfl) (lenOf pd6 rfl) [] rfl rfl 169 (hb hy at_166) rfl rfl rfl (allS ⟨gz1, (Or.inr gb1)⟩ all0) tri ?_
          intro v50 T50 h50 lo50 W50 K50 q50
          obtain ⟨r1_50, P50_0, P50_1, P50_2, P50_3, P50_4, rfl⟩ := q50.2.2
          show Gl _ _ _ _ _ _ _ _ [(.ref r1_50)]
          refine o_iloadN W50 170 (hb hy at_169) rfl rfl ?_
          refine o_staticC W50 (w44 hw) (w45 hw) (w46 hw) (w47 hw) (by decide) (rm80 l hw r1_50 h50 W50.old P50_2 P50_3 P50_4) 0 43 139 (by decide) (by rw [hml]; rfl) (lenOf pd10 rfl) [] rfl rfl 173 (hb hy at_170) rfl rfl rfl all0 tri ?_
          intro v51 T51 h51 lo51 W51 K51 q51
          obtain rfl := q51.2.2
          show Gl _ _ _ _ _ _ _ _ [(.int 1)]
          refine o_ifN W51 176 (hb hy at_173) (XT.i0_eq_f (by decide)) rfl <| o_iconst W51 (v := 1) 177 (hb hy at_176) rfl rfl <| o_goto W51 181 (hb hy at_177) (by decide) rfl <| o_istoreN W51 (L' := #[vi p0, vr b1, vi 1, vi 2]) 182 (hb hy at_181) rfl rfl <| o_iloadN W51 183 (hb hy at_182) rfl rfl <| o_iconst W51 (v := 1) 184 (hb hy at_183) rfl rfl ?_
          refine o_iadd W51 (v := 3) 185 (hb hy at_184) (by decide) rfl <| o_istoreN W51 (L' := #[vi p0, vr b1, vi 1, vi 3]) 186 (hb hy at_185) rfl rfl <| o_iloadN W51 187 (hb hy at_186) rfl rfl <| o_ifN W51 190 (hb hy at_187) (XT.i0_eq_f (by decide)) rfl <| o_aloadN W51 191 (hb hy at_190) rfl rfl rfl ?_
          have c52 := (P50_1.keep K51 nin0)
          have c53 := ((c49.keep K50).keep K51)
          refine o_virtualC W51 (w9 hw) (w10 hw) (o_nf W51 rfl (w12 hw)) (w12 hw) (w11 hw) (by decide) c53 (w13 hw) (w2 hw) (rm95 l hw gO1 gO2 gO3 gO4 gO7 gO10 gO13 gO16 gO19 gO22 gO25 gO28 gO31 gO34 gO37 gO38 gO41 gO44 gO47 gO50 gO53 gO56 gO59 gO62 gO65 gO68 gO71 gO74 gO77 gO80 gO83 gO86 gO87 gO88 gO89 gO90 gO91 z0 z1 z2 z3 z4 z5 b1 h51 W51.old c52 c53 gz1 z6 z8 z11 VgO3 z10 z12 VgO37 z13 z14 z15 z16 z17 z18 VgO86 VgO87 XgO7 XgO1 z27 z28 z21 z22 VgO89 z23 z24 XgO90 z25 VgO91 z26 z7 z9) 0 57 185 (by decide) (by rw [hml]; rfl) (lenOf pd6 rfl) [] rfl rfl 194 (hb hy at_191) rfl rfl rfl (allS ⟨gz1, (Or.inr gb1)⟩ all0) tri ?_
          intro v54 T54 h54 lo54 W54 K54 q54
          obtain ⟨r1_54, P54_0, P54_1, P54_2, P54_3, P54_4, rfl⟩ := q54.2.2
          show Gl _ _ _ _ _ _ _ _ [(.ref r1_54)]
          refine o_iloadN W54 195 (hb hy at_194) rfl rfl ?_
          refine o_staticC W54 (w44 hw) (w45 hw) (w46 hw) (w47 hw) (by decide) (rm98 l hw r1_54 h54 W54.old P54_2 P54_3 P54_4) 0 57 185 (by decide) (by rw [hml]; rfl) (lenOf pd10 rfl) [] rfl rfl 198 (hb hy at_195) rfl rfl rfl all0 tri ?_
          intro v55 T55 h55 lo55 W55 K55 q55
          obtain rfl := q55.2.2
          show Gl _ _ _ _ _ _ _ _ [(.int 1)]
          refine o_ifN W55 201 (hb hy at_198) (XT.i0_eq_f (by decide)) rfl <| o_iconst W55 (v := 1) 202 (hb hy at_201) rfl rfl <| o_goto W55 206 (hb hy at_202) (by decide) rfl <| o_istoreN W55 (L' := #[vi p0, vr b1, vi 1, vi 3]) 207 (hb hy at_206) rfl rfl <| o_iloadN W55 208 (hb hy at_207) rfl rfl ?_
          exact o_retN W55 hlk (t := .boolean) hret (by simp) (z' := (1 : Int32)) (by decide) (hb hy at_208) (by decide) (by decide) rfl
        · refine o_ifN W46 151 (hb hy at_148) (XT.i0_eq_f hq47) rfl <| o_aloadN W46 152 (hb hy at_151) rfl rfl rfl ?_
          have c56 := (P45_0.keep K46 nin0)
          have c57 := ((c44.keep K45).keep K46)
          refine o_virtualC W46 (w346 hw) (w347 hw) (o_nf W46 rfl (w349 hw)) (w349 hw) (w348 hw) (by decide) c57 (w350 hw) (w2 hw) (rm161 l hw b1 h46 W46.old c57 c56 gz1) 0 29 93 (by decide) (by rw [hml]; rfl) (lenOf pd0 rfl) [] rfl rfl 155 (hb hy at_152) rfl rfl rfl (allS ⟨gz1, (Or.inr gb1)⟩ all0) tri ?_
          intro v58 T58 h58 lo58 W58 K58 q58
          obtain ⟨P58_0, rfl⟩ := q58.2.2
          show Gl _ _ _ _ _ _ _ _ []
          refine o_iconst W58 (v := 0) 156 (hb hy at_155) rfl rfl <| o_istoreN W58 (L' := #[vi p0, vr b1, vi 1, vi 0]) 157 (hb hy at_156) rfl rfl <| o_iloadN W58 158 (hb hy at_157) rfl rfl <| o_iconst W58 (v := 1) 159 (hb hy at_158) rfl rfl <| o_iadd W58 (v := 1) 160 (hb hy at_159) (by decide) rfl <| o_istoreN W58 (L' := #[vi p0, vr b1, vi 1, vi 1]) 161 (hb hy at_160) rfl rfl ?_
          refine o_iloadN W58 162 (hb hy at_161) rfl rfl <| o_ifN W58 165 (hb hy at_162) (XT.i0_eq_f (by decide)) rfl <| o_aloadN W58 166 (hb hy at_165) rfl rfl rfl ?_
          have c59 := (c57.keep K58)
          refine o_virtualC W58 (w9 hw) (w10 hw) (o_nf W58 rfl (w12 hw)) (w12 hw) (w11 hw) (by decide) c59 (w13 hw) (w2 hw) (rm7 l hw gO1 gO2 b1 h58 W58.old P58_0 c59 gz1 z6 XgO1 z7 z8 z9) 0 29 93 (by decide) (by rw [hml]; rfl) (lenOf pd6 rfl) [] rfl rfl 169 (hb hy at_166) rfl rfl rfl (allS ⟨gz1, (Or.inr gb1)⟩ all0) tri ?_
          intro v60 T60 h60 lo60 W60 K60 q60
          obtain ⟨P60_0, rfl⟩ := q60.2.2
          show Gl _ _ _ _ _ _ _ _ [(.ref gO1)]
          refine o_iloadN W60 170 (hb hy at_169) rfl rfl ?_
          refine o_staticC W60 (w44 hw) (w45 hw) (w46 hw) (w47 hw) (by decide) (rm11 l hw gO1 h60 W60.old z8 XgO1 z10) 0 29 93 (by decide) (by rw [hml]; rfl) (lenOf pd10 rfl) [] rfl rfl 173 (hb hy at_170) rfl rfl rfl all0 tri ?_
          intro v61 T61 h61 lo61 W61 K61 q61
          obtain rfl := q61.2.2
          show Gl _ _ _ _ _ _ _ _ [(.int 1)]
          refine o_ifN W61 176 (hb hy at_173) (XT.i0_eq_f (by decide)) rfl <| o_iconst W61 (v := 1) 177 (hb hy at_176) rfl rfl <| o_goto W61 181 (hb hy at_177) (by decide) rfl <| o_istoreN W61 (L' := #[vi p0, vr b1, vi 1, vi 1]) 182 (hb hy at_181) rfl rfl <| o_iloadN W61 183 (hb hy at_182) rfl rfl <| o_iconst W61 (v := 1) 184 (hb hy at_183) rfl rfl ?_
          refine o_iadd W61 (v := 2) 185 (hb hy at_184) (by decide) rfl <| o_istoreN W61 (L' := #[vi p0, vr b1, vi 1, vi 2]) 186 (hb hy at_185) rfl rfl <| o_iloadN W61 187 (hb hy at_186) rfl rfl <| o_ifN W61 190 (hb hy at_187) (XT.i0_eq_f (by decide)) rfl <| o_aloadN W61 191 (hb hy at_190) rfl rfl rfl ?_
          have c62 := (P60_0.keep K61 nin0)
          have c63 := ((c59.keep K60).keep K61)
          refine o_virtualC W61 (w9 hw) (w10 hw) (o_nf W61 rfl (w12 hw)) (w12 hw) (w11 hw) (by decide) c63 (w13 hw) (w2 hw) (rm76 l hw gO1 gO2 gO3 gO4 gO7 gO10 gO13 gO16 gO19 gO22 gO25 gO28 gO31 gO34 gO37 gO38 gO41 gO44 gO47 gO50 gO53 gO56 gO59 gO62 gO65 gO68 gO71 gO74 gO77 gO80 gO83 gO86 gO87 gO88 gO89 gO90 gO91 z0 z1 z2 z3 z4 z5 b1 h61 W61.old c62 c63 gz1 z6 z8 z11 VgO3 z10 z12 VgO37 z13 z14 z15 z16 z17 z18 VgO86 VgO87 XgO7 XgO1 z19 z20 z21 z22 VgO89 z23 z24 XgO90 z25 VgO91 z26 z7 z9) 0 43 139 (by decide) (by rw [hml]; rfl) (lenOf pd6 rfl) [] rfl rfl 194 (hb hy at_191) rfl rfl rfl (allS ⟨gz1, (Or.inr gb1)⟩ all0) tri ?_
          intro v64 T64 h64 lo64 W64 K64 q64
          obtain ⟨r1_64, P64_0, P64_1, P64_2, P64_3, P64_4, rfl⟩ := q64.2.2
          show Gl _ _ _ _ _ _ _ _ [(.ref r1_64)]
          refine o_iloadN W64 195 (hb hy at_194) rfl rfl ?_
          refine o_staticC W64 (w44 hw) (w45 hw) (w46 hw) (w47 hw) (by decide) (rm80 l hw r1_64 h64 W64.old P64_2 P64_3 P64_4) 0 43 139 (by decide) (by rw [hml]; rfl) (lenOf pd10 rfl) [] rfl rfl 198 (hb hy at_195) rfl rfl rfl all0 tri ?_
          intro v65 T65 h65 lo65 W65 K65 q65
          obtain rfl := q65.2.2
          show Gl _ _ _ _ _ _ _ _ [(.int 1)]
          refine o_ifN W65 201 (hb hy at_198) (XT.i0_eq_f (by decide)) rfl <| o_iconst W65 (v := 1) 202 (hb hy at_201) rfl rfl <| o_goto W65 206 (hb hy at_202) (by decide) rfl <| o_istoreN W65 (L' := #[vi p0, vr b1, vi 1, vi 2]) 207 (hb hy at_206) rfl rfl <| o_iloadN W65 208 (hb hy at_207) rfl rfl ?_
          exact o_retN W65 hlk (t := .boolean) hret (by simp) (z' := (1 : Int32)) (by decide) (hb hy at_208) (by decide) (by decide) rfl
    · refine o_ifN W11 76 (hb hy at_73) (XT.i0_eq_f hq12) rfl <| o_aloadN W11 77 (hb hy at_76) rfl rfl rfl ?_
      have c66 := (P10_1.keep K11 nin0)
      have c67 := ((c9.keep K10).keep K11)
      refine o_virtualC W11 (w346 hw) (w347 hw) (o_nf W11 rfl (w349 hw)) (w349 hw) (w348 hw) (by decide) c67 (w350 hw) (w2 hw) (rm162 l hw b1 h11 W11.old c67 c66 gz1) 0 15 47 (by decide) (by rw [hml]; rfl) (lenOf pd0 rfl) [] rfl rfl 80 (hb hy at_77) rfl rfl rfl (allS ⟨gz1, (Or.inr gb1)⟩ all0) tri ?_
      intro v68 T68 h68 lo68 W68 K68 q68
      obtain ⟨P68_0, rfl⟩ := q68.2.2
      show Gl _ _ _ _ _ _ _ _ []
      refine o_iconst W68 (v := 0) 81 (hb hy at_80) rfl rfl <| o_istoreN W68 (L' := #[vi p0, vr b1, vi 1, vi 0]) 82 (hb hy at_81) rfl rfl <| o_iloadN W68 83 (hb hy at_82) rfl rfl <| o_iconst W68 (v := 1) 84 (hb hy at_83) rfl rfl <| o_iadd W68 (v := 1) 85 (hb hy at_84) (by decide) rfl <| o_istoreN W68 (L' := #[vi p0, vr b1, vi 1, vi 1]) 86 (hb hy at_85) rfl rfl ?_
      refine o_iloadN W68 87 (hb hy at_86) rfl rfl <| o_ifN W68 90 (hb hy at_87) (XT.i0_eq_f (by decide)) rfl <| o_aloadN W68 91 (hb hy at_90) rfl rfl rfl ?_
      have c69 := (c67.keep K68)
      refine o_virtualC W68 (w9 hw) (w10 hw) (o_nf W68 rfl (w12 hw)) (w12 hw) (w11 hw) (by decide) c69 (w13 hw) (w2 hw) (rm7 l hw gO1 gO2 b1 h68 W68.old P68_0 c69 gz1 z6 XgO1 z7 z8 z9) 0 15 47 (by decide) (by rw [hml]; rfl) (lenOf pd6 rfl) [] rfl rfl 94 (hb hy at_91) rfl rfl rfl (allS ⟨gz1, (Or.inr gb1)⟩ all0) tri ?_
      intro v70 T70 h70 lo70 W70 K70 q70
      obtain ⟨P70_0, rfl⟩ := q70.2.2
      show Gl _ _ _ _ _ _ _ _ [(.ref gO1)]
      refine o_iloadN W70 95 (hb hy at_94) rfl rfl ?_
      refine o_staticC W70 (w44 hw) (w45 hw) (w46 hw) (w47 hw) (by decide) (rm11 l hw gO1 h70 W70.old z8 XgO1 z10) 0 15 47 (by decide) (by rw [hml]; rfl) (lenOf pd10 rfl) [] rfl rfl 98 (hb hy at_95) rfl rfl rfl all0 tri ?_
      intro v71 T71 h71 lo71 W71 K71 q71
      obtain rfl := q71.2.2
      show Gl _ _ _ _ _ _ _ _ [(.int 1)]
      refine o_ifN W71 101 (hb hy at_98) (XT.i0_eq_f (by decide)) rfl <| o_iconst W71 (v := 1) 102 (hb hy at_101) rfl rfl <| o_goto W71 106 (hb hy at_102) (by decide) rfl <| o_istoreN W71 (L' := #[vi p0, vr b1, vi 1, vi 1]) 107 (hb hy at_106) rfl rfl <| o_iloadN W71 108 (hb hy at_107) rfl rfl <| o_iconst W71 (v := 4) 109 (hb hy at_108) rfl rfl ?_
      refine o_iand W71 (v := (p0 &&& 4)) 110 (hb hy at_109) rfl rfl ?_
      by_cases hq72 : (p0 &&& 4) = (0 : Int32)
      · refine o_ifY W71 119 (hb hy at_110) (XT.i0_eq_t hq72) (by decide) rfl <| o_iloadN W71 120 (hb hy at_119) rfl rfl <| o_iconst W71 (v := 1) 121 (hb hy at_120) rfl rfl <| o_iadd W71 (v := 2) 122 (hb hy at_121) (by decide) rfl <| o_istoreN W71 (L' := #[vi p0, vr b1, vi 1, vi 2]) 123 (hb hy at_122) rfl rfl <| o_iloadN W71 124 (hb hy at_123) rfl rfl ?_
        refine o_ifN W71 127 (hb hy at_124) (XT.i0_eq_f (by decide)) rfl <| o_aloadN W71 128 (hb hy at_127) rfl rfl rfl ?_
        have c73 := (P70_0.keep K71 nin0)
        have c74 := ((c69.keep K70).keep K71)
        refine o_virtualC W71 (w9 hw) (w10 hw) (o_nf W71 rfl (w12 hw)) (w12 hw) (w11 hw) (by decide) c74 (w13 hw) (w2 hw) (rm76 l hw gO1 gO2 gO3 gO4 gO7 gO10 gO13 gO16 gO19 gO22 gO25 gO28 gO31 gO34 gO37 gO38 gO41 gO44 gO47 gO50 gO53 gO56 gO59 gO62 gO65 gO68 gO71 gO74 gO77 gO80 gO83 gO86 gO87 gO88 gO89 gO90 gO91 z0 z1 z2 z3 z4 z5 b1 h71 W71.old c73 c74 gz1 z6 z8 z11 VgO3 z10 z12 VgO37 z13 z14 z15 z16 z17 z18 VgO86 VgO87 XgO7 XgO1 z19 z20 z21 z22 VgO89 z23 z24 XgO90 z25 VgO91 z26 z7 z9) 0 29 93 (by decide) (by rw [hml]; rfl) (lenOf pd6 rfl) [] rfl rfl 131 (hb hy at_128) rfl rfl rfl (allS ⟨gz1, (Or.inr gb1)⟩ all0) tri ?_
        intro v75 T75 h75 lo75 W75 K75 q75
        obtain ⟨r1_75, P75_0, P75_1, P75_2, P75_3, P75_4, rfl⟩ := q75.2.2
        show Gl _ _ _ _ _ _ _ _ [(.ref r1_75)]
        refine o_iloadN W75 132 (hb hy at_131) rfl rfl ?_
        refine o_staticC W75 (w44 hw) (w45 hw) (w46 hw) (w47 hw) (by decide) (rm80 l hw r1_75 h75 W75.old P75_2 P75_3 P75_4) 0 29 93 (by decide) (by rw [hml]; rfl) (lenOf pd10 rfl) [] rfl rfl 135 (hb hy at_132) rfl rfl rfl all0 tri ?_
        intro v76 T76 h76 lo76 W76 K76 q76
        obtain rfl := q76.2.2
        show Gl _ _ _ _ _ _ _ _ [(.int 1)]
        refine o_ifN W76 138 (hb hy at_135) (XT.i0_eq_f (by decide)) rfl <| o_iconst W76 (v := 1) 139 (hb hy at_138) rfl rfl <| o_goto W76 143 (hb hy at_139) (by decide) rfl <| o_istoreN W76 (L' := #[vi p0, vr b1, vi 1, vi 2]) 144 (hb hy at_143) rfl rfl <| o_iloadN W76 145 (hb hy at_144) rfl rfl <| o_bipush W76 (v := 8) 147 (hb hy at_145) (by decide) rfl ?_
        refine o_iand W76 (v := (p0 &&& 8)) 148 (hb hy at_147) rfl rfl ?_
        by_cases hq77 : (p0 &&& 8) = (0 : Int32)
        · refine o_ifY W76 157 (hb hy at_148) (XT.i0_eq_t hq77) (by decide) rfl <| o_iloadN W76 158 (hb hy at_157) rfl rfl <| o_iconst W76 (v := 1) 159 (hb hy at_158) rfl rfl <| o_iadd W76 (v := 3) 160 (hb hy at_159) (by decide) rfl <| o_istoreN W76 (L' := #[vi p0, vr b1, vi 1, vi 3]) 161 (hb hy at_160) rfl rfl <| o_iloadN W76 162 (hb hy at_161) rfl rfl ?_
          refine o_ifN W76 165 (hb hy at_162) (XT.i0_eq_f (by decide)) rfl <| o_aloadN W76 166 (hb hy at_165) rfl rfl rfl ?_
          have c78 := (P75_1.keep K76 nin0)
          have c79 := ((c74.keep K75).keep K76)
          refine o_virtualC W76 (w9 hw) (w10 hw) (o_nf W76 rfl (w12 hw)) (w12 hw) (w11 hw) (by decide) c79 (w13 hw) (w2 hw) (rm95 l hw gO1 gO2 gO3 gO4 gO7 gO10 gO13 gO16 gO19 gO22 gO25 gO28 gO31 gO34 gO37 gO38 gO41 gO44 gO47 gO50 gO53 gO56 gO59 gO62 gO65 gO68 gO71 gO74 gO77 gO80 gO83 gO86 gO87 gO88 gO89 gO90 gO91 z0 z1 z2 z3 z4 z5 b1 h76 W76.old c78 c79 gz1 z6 z8 z11 VgO3 z10 z12 VgO37 z13 z14 z15 z16 z17 z18 VgO86 VgO87 XgO7 XgO1 z27 z28 z21 z22 VgO89 z23 z24 XgO90 z25 VgO91 z26 z7 z9) 0 43 139 (by decide) (by rw [hml]; rfl) (lenOf pd6 rfl) [] rfl rfl 169 (hb hy at_166) rfl rfl rfl (allS ⟨gz1, (Or.inr gb1)⟩ all0) tri ?_
          intro v80 T80 h80 lo80 W80 K80 q80
          obtain ⟨r1_80, P80_0, P80_1, P80_2, P80_3, P80_4, rfl⟩ := q80.2.2
          show Gl _ _ _ _ _ _ _ _ [(.ref r1_80)]
          refine o_iloadN W80 170 (hb hy at_169) rfl rfl ?_
          refine o_staticC W80 (w44 hw) (w45 hw) (w46 hw) (w47 hw) (by decide) (rm98 l hw r1_80 h80 W80.old P80_2 P80_3 P80_4) 0 43 139 (by decide) (by rw [hml]; rfl) (lenOf pd10 rfl) [] rfl rfl 173 (hb hy at_170) rfl rfl rfl all0 tri ?_
          intro v81 T81 h81 lo81 W81 K81 q81
          obtain rfl := q81.2.2
          show Gl _ _ _ _ _ _ _ _ [(.int 1)]
          refine o_ifN W81 176 (hb hy at_173) (XT.i0_eq_f (by decide)) rfl <| o_iconst W81 (v := 1) 177 (hb hy at_176) rfl rfl <| o_goto W81 181 (hb hy at_177) (by decide) rfl <| o_istoreN W81 (L' := #[vi p0, vr b1, vi 1, vi 3]) 182 (hb hy at_181) rfl rfl <| o_iloadN W81 183 (hb hy at_182) rfl rfl <| o_iconst W81 (v := 1) 184 (hb hy at_183) rfl rfl ?_
          refine o_iadd W81 (v := 4) 185 (hb hy at_184) (by decide) rfl <| o_istoreN W81 (L' := #[vi p0, vr b1, vi 1, vi 4]) 186 (hb hy at_185) rfl rfl <| o_iloadN W81 187 (hb hy at_186) rfl rfl <| o_ifN W81 190 (hb hy at_187) (XT.i0_eq_f (by decide)) rfl <| o_aloadN W81 191 (hb hy at_190) rfl rfl rfl ?_
          have c82 := (P80_1.keep K81 nin0)
          have c83 := ((c79.keep K80).keep K81)
          refine o_virtualC W81 (w9 hw) (w10 hw) (o_nf W81 rfl (w12 hw)) (w12 hw) (w11 hw) (by decide) c83 (w13 hw) (w2 hw) (rm130 l hw gO1 gO2 gO3 gO4 gO7 gO10 gO13 gO16 gO19 gO22 gO25 gO28 gO31 gO34 gO37 gO38 gO41 gO44 gO47 gO50 gO53 gO56 gO59 gO62 gO65 gO68 gO71 gO74 gO77 gO80 gO83 gO86 gO87 gO88 gO89 gO90 gO91 z0 z1 z2 z3 z4 z5 b1 h81 W81.old c82 c83 gz1 z6 z8 z11 VgO3 z10 z12 VgO37 z13 z14 z15 z16 z17 z18 VgO86 VgO87 XgO7 XgO1 z29 z30 z21 z22 VgO89 z23 z24 XgO90 z25 VgO91 z26 z7 z9) 0 59 189 (by decide) (by rw [hml]; rfl) (lenOf pd6 rfl) [] rfl rfl 194 (hb hy at_191) rfl rfl rfl (allS ⟨gz1, (Or.inr gb1)⟩ all0) tri ?_
          intro v84 T84 h84 lo84 W84 K84 q84
          obtain ⟨r1_84, P84_0, P84_1, P84_2, P84_3, P84_4, rfl⟩ := q84.2.2
          show Gl _ _ _ _ _ _ _ _ [(.ref r1_84)]
          refine o_iloadN W84 195 (hb hy at_194) rfl rfl ?_
          refine o_staticC W84 (w44 hw) (w45 hw) (w46 hw) (w47 hw) (by decide) (rm133 l hw r1_84 h84 W84.old P84_2 P84_3 P84_4) 0 59 189 (by decide) (by rw [hml]; rfl) (lenOf pd10 rfl) [] rfl rfl 198 (hb hy at_195) rfl rfl rfl all0 tri ?_
          intro v85 T85 h85 lo85 W85 K85 q85
          obtain rfl := q85.2.2
          show Gl _ _ _ _ _ _ _ _ [(.int 1)]
          refine o_ifN W85 201 (hb hy at_198) (XT.i0_eq_f (by decide)) rfl <| o_iconst W85 (v := 1) 202 (hb hy at_201) rfl rfl <| o_goto W85 206 (hb hy at_202) (by decide) rfl <| o_istoreN W85 (L' := #[vi p0, vr b1, vi 1, vi 4]) 207 (hb hy at_206) rfl rfl <| o_iloadN W85 208 (hb hy at_207) rfl rfl ?_
          exact o_retN W85 hlk (t := .boolean) hret (by simp) (z' := (1 : Int32)) (by decide) (hb hy at_208) (by decide) (by decide) rfl
        · refine o_ifN W76 151 (hb hy at_148) (XT.i0_eq_f hq77) rfl <| o_aloadN W76 152 (hb hy at_151) rfl rfl rfl ?_
          have c86 := (P75_1.keep K76 nin0)
          have c87 := ((c74.keep K75).keep K76)
          refine o_virtualC W76 (w346 hw) (w347 hw) (o_nf W76 rfl (w349 hw)) (w349 hw) (w348 hw) (by decide) c87 (w350 hw) (w2 hw) (rm162 l hw b1 h76 W76.old c87 c86 gz1) 0 29 93 (by decide) (by rw [hml]; rfl) (lenOf pd0 rfl) [] rfl rfl 155 (hb hy at_152) rfl rfl rfl (allS ⟨gz1, (Or.inr gb1)⟩ all0) tri ?_
          intro v88 T88 h88 lo88 W88 K88 q88
          obtain ⟨P88_0, rfl⟩ := q88.2.2
          show Gl _ _ _ _ _ _ _ _ []
          refine o_iconst W88 (v := 0) 156 (hb hy at_155) rfl rfl <| o_istoreN W88 (L' := #[vi p0, vr b1, vi 1, vi 0]) 157 (hb hy at_156) rfl rfl <| o_iloadN W88 158 (hb hy at_157) rfl rfl <| o_iconst W88 (v := 1) 159 (hb hy at_158) rfl rfl <| o_iadd W88 (v := 1) 160 (hb hy at_159) (by decide) rfl <| o_istoreN W88 (L' := #[vi p0, vr b1, vi 1, vi 1]) 161 (hb hy at_160) rfl rfl ?_
          refine o_iloadN W88 162 (hb hy at_161) rfl rfl <| o_ifN W88 165 (hb hy at_162) (XT.i0_eq_f (by decide)) rfl <| o_aloadN W88 166 (hb hy at_165) rfl rfl rfl ?_
          have c89 := (c87.keep K88)
          refine o_virtualC W88 (w9 hw) (w10 hw) (o_nf W88 rfl (w12 hw)) (w12 hw) (w11 hw) (by decide) c89 (w13 hw) (w2 hw) (rm7 l hw gO1 gO2 b1 h88 W88.old P88_0 c89 gz1 z6 XgO1 z7 z8 z9) 0 29 93 (by decide) (by rw [hml]; rfl) (lenOf pd6 rfl) [] rfl rfl 169 (hb hy at_166) rfl rfl rfl (allS ⟨gz1, (Or.inr gb1)⟩ all0) tri ?_
          intro v90 T90 h90 lo90 W90 K90 q90
          obtain ⟨P90_0, rfl⟩ := q90.2.2
          show Gl _ _ _ _ _ _ _ _ [(.ref gO1)]
          refine o_iloadN W90 170 (hb hy at_169) rfl rfl ?_
          refine o_staticC W90 (w44 hw) (w45 hw) (w46 hw) (w47 hw) (by decide) (rm11 l hw gO1 h90 W90.old z8 XgO1 z10) 0 29 93 (by decide) (by rw [hml]; rfl) (lenOf pd10 rfl) [] rfl rfl 173 (hb hy at_170) rfl rfl rfl all0 tri ?_
          intro v91 T91 h91 lo91 W91 K91 q91
          obtain rfl := q91.2.2
          show Gl _ _ _ _ _ _ _ _ [(.int 1)]
          refine o_ifN W91 176 (hb hy at_173) (XT.i0_eq_f (by decide)) rfl <| o_iconst W91 (v := 1) 177 (hb hy at_176) rfl rfl <| o_goto W91 181 (hb hy at_177) (by decide) rfl <| o_istoreN W91 (L' := #[vi p0, vr b1, vi 1, vi 1]) 182 (hb hy at_181) rfl rfl <| o_iloadN W91 183 (hb hy at_182) rfl rfl <| o_iconst W91 (v := 1) 184 (hb hy at_183) rfl rfl ?_
          refine o_iadd W91 (v := 2) 185 (hb hy at_184) (by decide) rfl <| o_istoreN W91 (L' := #[vi p0, vr b1, vi 1, vi 2]) 186 (hb hy at_185) rfl rfl <| o_iloadN W91 187 (hb hy at_186) rfl rfl <| o_ifN W91 190 (hb hy at_187) (XT.i0_eq_f (by decide)) rfl <| o_aloadN W91 191 (hb hy at_190) rfl rfl rfl ?_
          have c92 := (P90_0.keep K91 nin0)
          have c93 := ((c89.keep K90).keep K91)
          refine o_virtualC W91 (w9 hw) (w10 hw) (o_nf W91 rfl (w12 hw)) (w12 hw) (w11 hw) (by decide) c93 (w13 hw) (w2 hw) (rm76 l hw gO1 gO2 gO3 gO4 gO7 gO10 gO13 gO16 gO19 gO22 gO25 gO28 gO31 gO34 gO37 gO38 gO41 gO44 gO47 gO50 gO53 gO56 gO59 gO62 gO65 gO68 gO71 gO74 gO77 gO80 gO83 gO86 gO87 gO88 gO89 gO90 gO91 z0 z1 z2 z3 z4 z5 b1 h91 W91.old c92 c93 gz1 z6 z8 z11 VgO3 z10 z12 VgO37 z13 z14 z15 z16 z17 z18 VgO86 VgO87 XgO7 XgO1 z19 z20 z21 z22 VgO89 z23 z24 XgO90 z25 VgO91 z26 z7 z9) 0 43 139 (by decide) (by rw [hml]; rfl) (lenOf pd6 rfl) [] rfl rfl 194 (hb hy at_191) rfl rfl rfl (allS ⟨gz1, (Or.inr gb1)⟩ all0) tri ?_
          intro v94 T94 h94 lo94 W94 K94 q94
          obtain ⟨r1_94, P94_0, P94_1, P94_2, P94_3, P94_4, rfl⟩ := q94.2.2
          show Gl _ _ _ _ _ _ _ _ [(.ref r1_94)]
          refine o_iloadN W94 195 (hb hy at_194) rfl rfl ?_
          refine o_staticC W94 (w44 hw) (w45 hw) (w46 hw) (w47 hw) (by decide) (rm80 l hw r1_94 h94 W94.old P94_2 P94_3 P94_4) 0 43 139 (by decide) (by rw [hml]; rfl) (lenOf pd10 rfl) [] rfl rfl 198 (hb hy at_195) rfl rfl rfl all0 tri ?_
          intro v95 T95 h95 lo95 W95 K95 q95
          obtain rfl := q95.2.2
          show Gl _ _ _ _ _ _ _ _ [(.int 1)]
          refine o_ifN W95 201 (hb hy at_198) (XT.i0_eq_f (by decide)) rfl <| o_iconst W95 (v := 1) 202 (hb hy at_201) rfl rfl <| o_goto W95 206 (hb hy at_202) (by decide) rfl <| o_istoreN W95 (L' := #[vi p0, vr b1, vi 1, vi 2]) 207 (hb hy at_206) rfl rfl <| o_iloadN W95 208 (hb hy at_207) rfl rfl ?_
          exact o_retN W95 hlk (t := .boolean) hret (by simp) (z' := (1 : Int32)) (by decide) (hb hy at_208) (by decide) (by decide) rfl
      · refine o_ifN W71 113 (hb hy at_110) (XT.i0_eq_f hq72) rfl <| o_aloadN W71 114 (hb hy at_113) rfl rfl rfl ?_
        have c96 := (P70_0.keep K71 nin0)
        have c97 := ((c69.keep K70).keep K71)
        refine o_virtualC W71 (w346 hw) (w347 hw) (o_nf W71 rfl (w349 hw)) (w349 hw) (w348 hw) (by decide) c97 (w350 hw) (w2 hw) (rm161 l hw b1 h71 W71.old c97 c96 gz1) 0 15 47 (by decide) (by rw [hml]; rfl) (lenOf pd0 rfl) [] rfl rfl 117 (hb hy at_114) rfl rfl rfl (allS ⟨gz1, (Or.inr gb1)⟩ all0) tri ?_
        intro v98 T98 h98 lo98 W98 K98 q98
        obtain ⟨P98_0, rfl⟩ := q98.2.2
        show Gl _ _ _ _ _ _ _ _ []
        refine o_iconst W98 (v := 0) 118 (hb hy at_117) rfl rfl <| o_istoreN W98 (L' := #[vi p0, vr b1, vi 1, vi 0]) 119 (hb hy at_118) rfl rfl <| o_iloadN W98 120 (hb hy at_119) rfl rfl <| o_iconst W98 (v := 1) 121 (hb hy at_120) rfl rfl <| o_iadd W98 (v := 1) 122 (hb hy at_121) (by decide) rfl <| o_istoreN W98 (L' := #[vi p0, vr b1, vi 1, vi 1]) 123 (hb hy at_122) rfl rfl ?_
        refine o_iloadN W98 124 (hb hy at_123) rfl rfl <| o_ifN W98 127 (hb hy at_124) (XT.i0_eq_f (by decide)) rfl <| o_aloadN W98 128 (hb hy at_127) rfl rfl rfl ?_
        have c99 := (c97.keep K98)
        refine o_virtualC W98 (w9 hw) (w10 hw) (o_nf W98 rfl (w12 hw)) (w12 hw) (w11 hw) (by decide) c99 (w13 hw) (w2 hw) (rm7 l hw gO1 gO2 b1 h98 W98.old P98_0 c99 gz1 z6 XgO1 z7 z8 z9) 0 15 47 (by decide) (by rw [hml]; rfl) (lenOf pd6 rfl) [] rfl rfl 131 (hb hy at_128) rfl rfl rfl (allS ⟨gz1, (Or.inr gb1)⟩ all0) tri ?_
        intro v100 T100 h100 lo100 W100 K100 q100
        obtain ⟨P100_0, rfl⟩ := q100.2.2
        show Gl _ _ _ _ _ _ _ _ [(.ref gO1)]
        refine o_iloadN W100 132 (hb hy at_131) rfl rfl ?_
        refine o_staticC W100 (w44 hw) (w45 hw) (w46 hw) (w47 hw) (by decide) (rm11 l hw gO1 h100 W100.old z8 XgO1 z10) 0 15 47 (by decide) (by rw [hml]; rfl) (lenOf pd10 rfl) [] rfl rfl 135 (hb hy at_132) rfl rfl rfl all0 tri ?_
        intro v101 T101 h101 lo101 W101 K101 q101
        obtain rfl := q101.2.2
        show Gl _ _ _ _ _ _ _ _ [(.int 1)]
        refine o_ifN W101 138 (hb hy at_135) (XT.i0_eq_f (by decide)) rfl <| o_iconst W101 (v := 1) 139 (hb hy at_138) rfl rfl <| o_goto W101 143 (hb hy at_139) (by decide) rfl <| o_istoreN W101 (L' := #[vi p0, vr b1, vi 1, vi 1]) 144 (hb hy at_143) rfl rfl <| o_iloadN W101 145 (hb hy at_144) rfl rfl <| o_bipush W101 (v := 8) 147 (hb hy at_145) (by decide) rfl ?_
        refine o_iand W101 (v := (p0 &&& 8)) 148 (hb hy at_147) rfl rfl ?_
        by_cases hq102 : (p0 &&& 8) = (0 : Int32)
        · refine o_ifY W101 157 (hb hy at_148) (XT.i0_eq_t hq102) (by decide) rfl <| o_iloadN W101 158 (hb hy at_157) rfl rfl <| o_iconst W101 (v := 1) 159 (hb hy at_158) rfl rfl <| o_iadd W101 (v := 2) 160 (hb hy at_159) (by decide) rfl <| o_istoreN W101 (L' := #[vi p0, vr b1, vi 1, vi 2]) 161 (hb hy at_160) rfl rfl <| o_iloadN W101 162 (hb hy at_161) rfl rfl ?_
          refine o_ifN W101 165 (hb hy at_162) (XT.i0_eq_f (by decide)) rfl <| o_aloadN W101 166 (hb hy at_165) rfl rfl rfl ?_
          have c103 := (P100_0.keep K101 nin0)
          have c104 := ((c99.keep K100).keep K101)
          refine o_virtualC W101 (w9 hw) (w10 hw) (o_nf W101 rfl (w12 hw)) (w12 hw) (w11 hw) (by decide) c104 (w13 hw) (w2 hw) (rm76 l hw gO1 gO2 gO3 gO4 gO7 gO10 gO13 gO16 gO19 gO22 gO25 gO28 gO31 gO34 gO37 gO38 gO41 gO44 gO47 gO50 gO53 gO56 gO59 gO62 gO65 gO68 gO71 gO74 gO77 gO80 gO83 gO86 gO87 gO88 gO89 gO90 gO91 z0 z1 z2 z3 z4 z5 b1 h101 W101.old c103 c104 gz1 z6 z8 z11 VgO3 z10 z12 VgO37 z13 z14 z15 z16 z17 z18 VgO86 VgO87 XgO7 XgO1 z19 z20 z21 z22 VgO89 z23 z24 XgO90 z25 VgO91 z26 z7 z9) 0 29 93 (by decide) (by rw [hml]; rfl) (lenOf pd6 rfl) [] rfl rfl 169 (hb hy at_166) rfl rfl rfl (allS ⟨gz1, (Or.inr gb1)⟩ all0) tri ?_
          intro v105 T105 h105 lo105 W105 K105 q105
          obtain ⟨r1_105, P105_0, P105_1, P105_2, P105_3, P105_4, rfl⟩ := q105.2.2
          show Gl _ _ _ _ _ _ _ _ [(.ref r1_105)]
          refine o_iloadN W105 170 (hb hy at_169) rfl rfl ?_
          refine o_staticC W105 (w44 hw) (w45 hw) (w46 hw) (w47 hw) (by decide) (rm80 l hw r1_105 h105 W105.old P105_2 P105_3 P105_4) 0 29 93 (by decide) (by rw [hml]; rfl) (lenOf pd10 rfl) [] rfl rfl 173 (hb hy at_170) rfl rfl rfl all0 tri ?_
          intro v106 T106 h106 lo106 W106 K106 q106
          obtain rfl := q106.2.2
          show Gl _ _ _ _ _ _ _ _ [(.int 1)]
          refine o_ifN W106 176 (hb hy at_173) (XT.i0_eq_f (by decide)) rfl <| o_iconst W106 (v := 1) 177 (hb hy at_176) rfl rfl <| o_goto W106 181 (hb hy at_177) (by decide) rfl <| o_istoreN W106 (L' := #[vi p0, vr b1, vi 1, vi 2]) 182 (hb hy at_181) rfl rfl <| o_iloadN W106 183 (hb hy at_182) rfl rfl <| o_iconst W106 (v := 1) 184 (hb hy at_183) rfl rfl ?_
          refine o_iadd W106 (v := 3) 185 (hb hy at_184) (by decide) rfl <| o_istoreN W106 (L' := #[vi p0, vr b1, vi 1, vi 3]) 186 (hb hy at_185) rfl rfl <| o_iloadN W106 187 (hb hy at_186) rfl rfl <| o_ifN W106 190 (hb hy at_187) (XT.i0_eq_f (by decide)) rfl <| o_aloadN W106 191 (hb hy at_190) rfl rfl rfl ?_
          have c107 := (P105_1.keep K106 nin0)
          have c108 := ((c104.keep K105).keep K106)
          refine o_virtualC W106 (w9 hw) (w10 hw) (o_nf W106 rfl (w12 hw)) (w12 hw) (w11 hw) (by decide) c108 (w13 hw) (w2 hw) (rm95 l hw gO1 gO2 gO3 gO4 gO7 gO10 gO13 gO16 gO19 gO22 gO25 gO28 gO31 gO34 gO37 gO38 gO41 gO44 gO47 gO50 gO53 gO56 gO59 gO62 gO65 gO68 gO71 gO74 gO77 gO80 gO83 gO86 gO87 gO88 gO89 gO90 gO91 z0 z1 z2 z3 z4 z5 b1 h106 W106.old c107 c108 gz1 z6 z8 z11 VgO3 z10 z12 VgO37 z13 z14 z15 z16 z17 z18 VgO86 VgO87 XgO7 XgO1 z27 z28 z21 z22 VgO89 z23 z24 XgO90 z25 VgO91 z26 z7 z9) 0 43 139 (by decide) (by rw [hml]; rfl) (lenOf pd6 rfl) [] rfl rfl 194 (hb hy at_191) rfl rfl rfl (allS ⟨gz1, (Or.inr gb1)⟩ all0) tri ?_
          intro v109 T109 h109 lo109 W109 K109 q109
          obtain ⟨r1_109, P109_0, P109_1, P109_2, P109_3, P109_4, rfl⟩ := q109.2.2
          show Gl _ _ _ _ _ _ _ _ [(.ref r1_109)]
          refine o_iloadN W109 195 (hb hy at_194) rfl rfl ?_
          refine o_staticC W109 (w44 hw) (w45 hw) (w46 hw) (w47 hw) (by decide) (rm98 l hw r1_109 h109 W109.old P109_2 P109_3 P109_4) 0 43 139 (by decide) (by rw [hml]; rfl) (lenOf pd10 rfl) [] rfl rfl 198 (hb hy at_195) rfl rfl rfl all0 tri ?_
          intro v110 T110 h110 lo110 W110 K110 q110
          obtain rfl := q110.2.2
          show Gl _ _ _ _ _ _ _ _ [(.int 1)]
          refine o_ifN W110 201 (hb hy at_198) (XT.i0_eq_f (by decide)) rfl <| o_iconst W110 (v := 1) 202 (hb hy at_201) rfl rfl <| o_goto W110 206 (hb hy at_202) (by decide) rfl <| o_istoreN W110 (L' := #[vi p0, vr b1, vi 1, vi 3]) 207 (hb hy at_206) rfl rfl <| o_iloadN W110 208 (hb hy at_207) rfl rfl ?_
          exact o_retN W110 hlk (t := .boolean) hret (by simp) (z' := (1 : Int32)) (by decide) (hb hy at_208) (by decide) (by decide) rfl
        · refine o_ifN W101 151 (hb hy at_148) (XT.i0_eq_f hq102) rfl <| o_aloadN W101 152 (hb hy at_151) rfl rfl rfl ?_
          have c111 := (P100_0.keep K101 nin0)
          have c112 := ((c99.keep K100).keep K101)
          refine o_virtualC W101 (w346 hw) (w347 hw) (o_nf W101 rfl (w349 hw)) (w349 hw) (w348 hw) (by decide) c112 (w350 hw) (w2 hw) (rm161 l hw b1 h101 W101.old c112 c111 gz1) 0 15 47 (by decide) (by rw [hml]; rfl) (lenOf pd0 rfl) [] rfl rfl 155 (hb hy at_152) rfl rfl rfl (allS ⟨gz1, (Or.inr gb1)⟩ all0) tri ?_
          intro v113 T113 h113 lo113 W113 K113 q113
          obtain ⟨P113_0, rfl⟩ := q113.2.2
          show Gl _ _ _ _ _ _ _ _ []
          refine o_iconst W113 (v := 0) 156 (hb hy at_155) rfl rfl <| o_istoreN W113 (L' := #[vi p0, vr b1, vi 1, vi 0]) 157 (hb hy at_156) rfl rfl <| o_iloadN W113 158 (hb hy at_157) rfl rfl <| o_iconst W113 (v := 1) 159 (hb hy at_158) rfl rfl <| o_iadd W113 (v := 1) 160 (hb hy at_159) (by decide) rfl <| o_istoreN W113 (L' := #[vi p0, vr b1, vi 1, vi 1]) 161 (hb hy at_160) rfl rfl ?_
          refine o_iloadN W113 162 (hb hy at_161) rfl rfl <| o_ifN W113 165 (hb hy at_162) (XT.i0_eq_f (by decide)) rfl <| o_aloadN W113 166 (hb hy at_165) rfl rfl rfl ?_
          have c114 := (c112.keep K113)
          refine o_virtualC W113 (w9 hw) (w10 hw) (o_nf W113 rfl (w12 hw)) (w12 hw) (w11 hw) (by decide) c114 (w13 hw) (w2 hw) (rm7 l hw gO1 gO2 b1 h113 W113.old P113_0 c114 gz1 z6 XgO1 z7 z8 z9) 0 15 47 (by decide) (by rw [hml]; rfl) (lenOf pd6 rfl) [] rfl rfl 169 (hb hy at_166) rfl rfl rfl (allS ⟨gz1, (Or.inr gb1)⟩ all0) tri ?_
          intro v115 T115 h115 lo115 W115 K115 q115
          obtain ⟨P115_0, rfl⟩ := q115.2.2
          show Gl _ _ _ _ _ _ _ _ [(.ref gO1)]
          refine o_iloadN W115 170 (hb hy at_169) rfl rfl ?_
          refine o_staticC W115 (w44 hw) (w45 hw) (w46 hw) (w47 hw) (by decide) (rm11 l hw gO1 h115 W115.old z8 XgO1 z10) 0 15 47 (by decide) (by rw [hml]; rfl) (lenOf pd10 rfl) [] rfl rfl 173 (hb hy at_170) rfl rfl rfl all0 tri ?_
          intro v116 T116 h116 lo116 W116 K116 q116
          obtain rfl := q116.2.2
          show Gl _ _ _ _ _ _ _ _ [(.int 1)]
          refine o_ifN W116 176 (hb hy at_173) (XT.i0_eq_f (by decide)) rfl <| o_iconst W116 (v := 1) 177 (hb hy at_176) rfl rfl <| o_goto W116 181 (hb hy at_177) (by decide) rfl <| o_istoreN W116 (L' := #[vi p0, vr b1, vi 1, vi 1]) 182 (hb hy at_181) rfl rfl <| o_iloadN W116 183 (hb hy at_182) rfl rfl <| o_iconst W116 (v := 1) 184 (hb hy at_183) rfl rfl ?_
          refine o_iadd W116 (v := 2) 185 (hb hy at_184) (by decide) rfl <| o_istoreN W116 (L' := #[vi p0, vr b1, vi 1, vi 2]) 186 (hb hy at_185) rfl rfl <| o_iloadN W116 187 (hb hy at_186) rfl rfl <| o_ifN W116 190 (hb hy at_187) (XT.i0_eq_f (by decide)) rfl <| o_aloadN W116 191 (hb hy at_190) rfl rfl rfl ?_
          have c117 := (P115_0.keep K116 nin0)
          have c118 := ((c114.keep K115).keep K116)
          refine o_virtualC W116 (w9 hw) (w10 hw) (o_nf W116 rfl (w12 hw)) (w12 hw) (w11 hw) (by decide) c118 (w13 hw) (w2 hw) (rm76 l hw gO1 gO2 gO3 gO4 gO7 gO10 gO13 gO16 gO19 gO22 gO25 gO28 gO31 gO34 gO37 gO38 gO41 gO44 gO47 gO50 gO53 gO56 gO59 gO62 gO65 gO68 gO71 gO74 gO77 gO80 gO83 gO86 gO87 gO88 gO89 gO90 gO91 z0 z1 z2 z3 z4 z5 b1 h116 W116.old c117 c118 gz1 z6 z8 z11 VgO3 z10 z12 VgO37 z13 z14 z15 z16 z17 z18 VgO86 VgO87 XgO7 XgO1 z19 z20 z21 z22 VgO89 z23 z24 XgO90 z25 VgO91 z26 z7 z9) 0 29 93 (by decide) (by rw [hml]; rfl) (lenOf pd6 rfl) [] rfl rfl 194 (hb hy at_191) rfl rfl rfl (allS ⟨gz1, (Or.inr gb1)⟩ all0) tri ?_
          intro v119 T119 h119 lo119 W119 K119 q119
          obtain ⟨r1_119, P119_0, P119_1, P119_2, P119_3, P119_4, rfl⟩ := q119.2.2
          show Gl _ _ _ _ _ _ _ _ [(.ref r1_119)]
          refine o_iloadN W119 195 (hb hy at_194) rfl rfl ?_
          refine o_staticC W119 (w44 hw) (w45 hw) (w46 hw) (w47 hw) (by decide) (rm80 l hw r1_119 h119 W119.old P119_2 P119_3 P119_4) 0 29 93 (by decide) (by rw [hml]; rfl) (lenOf pd10 rfl) [] rfl rfl 198 (hb hy at_195) rfl rfl rfl all0 tri ?_
          intro v120 T120 h120 lo120 W120 K120 q120
          obtain rfl := q120.2.2
          show Gl _ _ _ _ _ _ _ _ [(.int 1)]
          refine o_ifN W120 201 (hb hy at_198) (XT.i0_eq_f (by decide)) rfl <| o_iconst W120 (v := 1) 202 (hb hy at_201) rfl rfl <| o_goto W120 206 (hb hy at_202) (by decide) rfl <| o_istoreN W120 (L' := #[vi p0, vr b1, vi 1, vi 2]) 207 (hb hy at_206) rfl rfl <| o_iloadN W120 208 (hb hy at_207) rfl rfl ?_
          exact o_retN W120 hlk (t := .boolean) hret (by simp) (z' := (1 : Int32)) (by decide) (hb hy at_208) (by decide) (by decide) rfl
  · refine o_ifN W6 39 (hb hy at_36) (XT.i0_eq_f hq7) rfl <| o_aloadN W6 40 (hb hy at_39) rfl rfl rfl ?_
    have c121 := (P5_0.keep K6 nin0)
    have c122 := ((c4.keep K5).keep K6)
    refine o_virtualC W6 (w346 hw) (w347 hw) (o_nf W6 rfl (w349 hw)) (w349 hw) (w348 hw) (by decide) c122 (w350 hw) (w2 hw) (rm161 l hw b1 h6 W6.old c122 c121 gz1) 0 1 1 (by decide) (by rw [hml]; rfl) (lenOf pd0 rfl) [] rfl rfl 43 (hb hy at_40) rfl rfl rfl (allS ⟨gz1, (Or.inr gb1)⟩ all0) tri ?_
    intro v123 T123 h123 lo123 W123 K123 q123
    obtain ⟨P123_0, rfl⟩ := q123.2.2
    show Gl _ _ _ _ _ _ _ _ []
    refine o_iconst W123 (v := 0) 44 (hb hy at_43) rfl rfl <| o_istoreN W123 (L' := #[vi p0, vr b1, vi 1, vi 0]) 45 (hb hy at_44) rfl rfl <| o_iloadN W123 46 (hb hy at_45) rfl rfl <| o_iconst W123 (v := 1) 47 (hb hy at_46) rfl rfl <| o_iadd W123 (v := 1) 48 (hb hy at_47) (by decide) rfl <| o_istoreN W123 (L' := #[vi p0, vr b1, vi 1, vi 1]) 49 (hb hy at_48) rfl rfl ?_
    refine o_iloadN W123 50 (hb hy at_49) rfl rfl <| o_ifN W123 53 (hb hy at_50) (XT.i0_eq_f (by decide)) rfl <| o_aloadN W123 54 (hb hy at_53) rfl rfl rfl ?_
    have c124 := (c122.keep K123)
    refine o_virtualC W123 (w9 hw) (w10 hw) (o_nf W123 rfl (w12 hw)) (w12 hw) (w11 hw) (by decide) c124 (w13 hw) (w2 hw) (rm7 l hw gO1 gO2 b1 h123 W123.old P123_0 c124 gz1 z6 XgO1 z7 z8 z9) 0 1 1 (by decide) (by rw [hml]; rfl) (lenOf pd6 rfl) [] rfl rfl 57 (hb hy at_54) rfl rfl rfl (allS ⟨gz1, (Or.inr gb1)⟩ all0) tri ?_
    intro v125 T125 h125 lo125 W125 K125 q125
    obtain ⟨P125_0, rfl⟩ := q125.2.2
    show Gl _ _ _ _ _ _ _ _ [(.ref gO1)]
    refine o_iloadN W125 58 (hb hy at_57) rfl rfl ?_
    refine o_staticC W125 (w44 hw) (w45 hw) (w46 hw) (w47 hw) (by decide) (rm11 l hw gO1 h125 W125.old z8 XgO1 z10) 0 1 1 (by decide) (by rw [hml]; rfl) (lenOf pd10 rfl) [] rfl rfl 61 (hb hy at_58) rfl rfl rfl all0 tri ?_
    intro v126 T126 h126 lo126 W126 K126 q126
    obtain rfl := q126.2.2
    show Gl _ _ _ _ _ _ _ _ [(.int 1)]
    refine o_ifN W126 64 (hb hy at_61) (XT.i0_eq_f (by decide)) rfl <| o_iconst W126 (v := 1) 65 (hb hy at_64) rfl rfl <| o_goto W126 69 (hb hy at_65) (by decide) rfl <| o_istoreN W126 (L' := #[vi p0, vr b1, vi 1, vi 1]) 70 (hb hy at_69) rfl rfl <| o_iloadN W126 71 (hb hy at_70) rfl rfl <| o_iconst W126 (v := 2) 72 (hb hy at_71) rfl rfl ?_
    refine o_iand W126 (v := (p0 &&& 2)) 73 (hb hy at_72) rfl rfl ?_
    by_cases hq127 : (p0 &&& 2) = (0 : Int32)
    · refine o_ifY W126 82 (hb hy at_73) (XT.i0_eq_t hq127) (by decide) rfl <| o_iloadN W126 83 (hb hy at_82) rfl rfl <| o_iconst W126 (v := 1) 84 (hb hy at_83) rfl rfl <| o_iadd W126 (v := 2) 85 (hb hy at_84) (by decide) rfl <| o_istoreN W126 (L' := #[vi p0, vr b1, vi 1, vi 2]) 86 (hb hy at_85) rfl rfl <| o_iloadN W126 87 (hb hy at_86) rfl rfl ?_
      refine o_ifN W126 90 (hb hy at_87) (XT.i0_eq_f (by decide)) rfl <| o_aloadN W126 91 (hb hy at_90) rfl rfl rfl ?_
      have c128 := (P125_0.keep K126 nin0)
      have c129 := ((c124.keep K125).keep K126)
      refine o_virtualC W126 (w9 hw) (w10 hw) (o_nf W126 rfl (w12 hw)) (w12 hw) (w11 hw) (by decide) c129 (w13 hw) (w2 hw) (rm76 l hw gO1 gO2 gO3 gO4 gO7 gO10 gO13 gO16 gO19 gO22 gO25 gO28 gO31 gO34 gO37 gO38 gO41 gO44 gO47 gO50 gO53 gO56 gO59 gO62 gO65 gO68 gO71 gO74 gO77 gO80 gO83 gO86 gO87 gO88 gO89 gO90 gO91 z0 z1 z2 z3 z4 z5 b1 h126 W126.old c128 c129 gz1 z6 z8 z11 VgO3 z10 z12 VgO37 z13 z14 z15 z16 z17 z18 VgO86 VgO87 XgO7 XgO1 z19 z20 z21 z22 VgO89 z23 z24 XgO90 z25 VgO91 z26 z7 z9) 0 15 47 (by decide) (by rw [hml]; rfl) (lenOf pd6 rfl) [] rfl rfl 94 (hb hy at_91) rfl rfl rfl (allS ⟨gz1, (Or.inr gb1)⟩ all0) tri ?_
      intro v130 T130 h130 lo130 W130 K130 q130
      obtain ⟨r1_130, P130_0, P130_1, P130_2, P130_3, P130_4, rfl⟩ := q130.2.2
      show Gl _ _ _ _ _ _ _ _ [(.ref r1_130)]
      refine o_iloadN W130 95 (hb hy at_94) rfl rfl ?_
      refine o_staticC W130 (w44 hw) (w45 hw) (w46 hw) (w47 hw) (by decide) (rm80 l hw r1_130 h130 W130.old P130_2 P130_3 P130_4) 0 15 47 (by decide) (by rw [hml]; rfl) (lenOf pd10 rfl) [] rfl rfl 98 (hb hy at_95) rfl rfl rfl all0 tri ?_
      intro v131 T131 h131 lo131 W131 K131 q131
      obtain rfl := q131.2.2
      show Gl _ _ _ _ _ _ _ _ [(.int 1)]
      refine o_ifN W131 101 (hb hy at_98) (XT.i0_eq_f (by decide)) rfl <| o_iconst W131 (v := 1) 102 (hb hy at_101) rfl rfl <| o_goto W131 106 (hb hy at_102) (by decide) rfl <| o_istoreN W131 (L' := #[vi p0, vr b1, vi 1, vi 2]) 107 (hb hy at_106) rfl rfl <| o_iloadN W131 108 (hb hy at_107) rfl rfl <| o_iconst W131 (v := 4) 109 (hb hy at_108) rfl rfl ?_
      refine o_iand W131 (v := (p0 &&& 4)) 110 (hb hy at_109) rfl rfl ?_
      by_cases hq132 : (p0 &&& 4) = (0 : Int32)
      · refine o_ifY W131 119 (hb hy at_110) (XT.i0_eq_t hq132) (by decide) rfl <| o_iloadN W131 120 (hb hy at_119) rfl rfl <| o_iconst W131 (v := 1) 121 (hb hy at_120) rfl rfl <| o_iadd W131 (v := 3) 122 (hb hy at_121) (by decide) rfl <| o_istoreN W131 (L' := #[vi p0, vr b1, vi 1, vi 3]) 123 (hb hy at_122) rfl rfl <| o_iloadN W131 124 (hb hy at_123) rfl rfl ?_
        refine o_ifN W131 127 (hb hy at_124) (XT.i0_eq_f (by decide)) rfl <| o_aloadN W131 128 (hb hy at_127) rfl rfl rfl ?_
        have c133 := (P130_1.keep K131 nin0)
        have c134 := ((c129.keep K130).keep K131)
        refine o_virtualC W131 (w9 hw) (w10 hw) (o_nf W131 rfl (w12 hw)) (w12 hw) (w11 hw) (by decide) c134 (w13 hw) (w2 hw) (rm95 l hw gO1 gO2 gO3 gO4 gO7 gO10 gO13 gO16 gO19 gO22 gO25 gO28 gO31 gO34 gO37 gO38 gO41 gO44 gO47 gO50 gO53 gO56 gO59 gO62 gO65 gO68 gO71 gO74 gO77 gO80 gO83 gO86 gO87 gO88 gO89 gO90 gO91 z0 z1 z2 z3 z4 z5 b1 h131 W131.old c133 c134 gz1 z6 z8 z11 VgO3 z10 z12 VgO37 z13 z14 z15 z16 z17 z18 VgO86 VgO87 XgO7 XgO1 z27 z28 z21 z22 VgO89 z23 z24 XgO90 z25 VgO91 z26 z7 z9) 0 29 93 (by decide) (by rw [hml]; rfl) (lenOf pd6 rfl) [] rfl rfl 131 (hb hy at_128) rfl rfl rfl (allS ⟨gz1, (Or.inr gb1)⟩ all0) tri ?_
        intro v135 T135 h135 lo135 W135 K135 q135
        obtain ⟨r1_135, P135_0, P135_1, P135_2, P135_3, P135_4, rfl⟩ := q135.2.2
        show Gl _ _ _ _ _ _ _ _ [(.ref r1_135)]
        refine o_iloadN W135 132 (hb hy at_131) rfl rfl ?_
        refine o_staticC W135 (w44 hw) (w45 hw) (w46 hw) (w47 hw) (by decide) (rm98 l hw r1_135 h135 W135.old P135_2 P135_3 P135_4) 0 29 93 (by decide) (by rw [hml]; rfl) (lenOf pd10 rfl) [] rfl rfl 135 (hb hy at_132) rfl rfl rfl all0 tri ?_
        intro v136 T136 h136 lo136 W136 K136 q136
        obtain rfl := q136.2.2
        show Gl _ _ _ _ _ _ _ _ [(.int 1)]
        refine o_ifN W136 138 (hb hy at_135) (XT.i0_eq_f (by decide)) rfl <| o_iconst W136 (v := 1) 139 (hb hy at_138) rfl rfl <| o_goto W136 143 (hb hy at_139) (by decide) rfl <| o_istoreN W136 (L' := #[vi p0, vr b1, vi 1, vi 3]) 144 (hb hy at_143) rfl rfl <| o_iloadN W136 145 (hb hy at_144) rfl rfl <| o_bipush W136 (v := 8) 147 (hb hy at_145) (by decide) rfl ?_
        refine o_iand W136 (v := (p0 &&& 8)) 148 (hb hy at_147) rfl rfl ?_
        by_cases hq137 : (p0 &&& 8) = (0 : Int32)
        · refine o_ifY W136 157 (hb hy at_148) (XT.i0_eq_t hq137) (by decide) rfl <| o_iloadN W136 158 (hb hy at_157) rfl rfl <| o_iconst W136 (v := 1) 159 (hb hy at_158) rfl rfl <| o_iadd W136 (v := 4) 160 (hb hy at_159) (by decide) rfl <| o_istoreN W136 (L' := #[vi p0, vr b1, vi 1, vi 4]) 161 (hb hy at_160) rfl rfl <| o_iloadN W136 162 (hb hy at_161) rfl rfl ?_
          refine o_ifN W136 165 (hb hy at_162) (XT.i0_eq_f (by decide)) rfl <| o_aloadN W136 166 (hb hy at_165) rfl rfl rfl ?_
          have c138 := (P135_1.keep K136 nin0)
          have c139 := ((c134.keep K135).keep K136)
          refine o_virtualC W136 (w9 hw) (w10 hw) (o_nf W136 rfl (w12 hw)) (w12 hw) (w11 hw) (by decide) c139 (w13 hw) (w2 hw) (rm130 l hw gO1 gO2 gO3 gO4 gO7 gO10 gO13 gO16 gO19 gO22 gO25 gO28 gO31 gO34 gO37 gO38 gO41 gO44 gO47 gO50 gO53 gO56 gO59 gO62 gO65 gO68 gO71 gO74 gO77 gO80 gO83 gO86 gO87 gO88 gO89 gO90 gO91 z0 z1 z2 z3 z4 z5 b1 h136 W136.old c138 c139 gz1 z6 z8 z11 VgO3 z10 z12 VgO37 z13 z14 z15 z16 z17 z18 VgO86 VgO87 XgO7 XgO1 z29 z30 z21 z22 VgO89 z23 z24 XgO90 z25 VgO91 z26 z7 z9) 0 45 143 (by decide) (by rw [hml]; rfl) (lenOf pd6 rfl) [] rfl rfl 169 (hb hy at_166) rfl rfl rfl (allS ⟨gz1, (Or.inr gb1)⟩ all0) tri ?_
          intro v140 T140 h140 lo140 W140 K140 q140
          obtain ⟨r1_140, P140_0, P140_1, P140_2, P140_3, P140_4, rfl⟩ := q140.2.2
          show Gl _ _ _ _ _ _ _ _ [(.ref r1_140)]
          refine o_iloadN W140 170 (hb hy at_169) rfl rfl ?_
          refine o_staticC W140 (w44 hw) (w45 hw) (w46 hw) (w47 hw) (by decide) (rm133 l hw r1_140 h140 W140.old P140_2 P140_3 P140_4) 0 45 143 (by decide) (by rw [hml]; rfl) (lenOf pd10 rfl) [] rfl rfl 173 (hb hy at_170) rfl rfl rfl all0 tri ?_
          intro v141 T141 h141 lo141 W141 K141 q141
          obtain rfl := q141.2.2
          show Gl _ _ _ _ _ _ _ _ [(.int 1)]
          refine o_ifN W141 176 (hb hy at_173) (XT.i0_eq_f (by decide)) rfl <| o_iconst W141 (v := 1) 177 (hb hy at_176) rfl rfl <| o_goto W141 181 (hb hy at_177) (by decide) rfl <| o_istoreN W141 (L' := #[vi p0, vr b1, vi 1, vi 4]) 182 (hb hy at_181) rfl rfl <| o_iloadN W141 183 (hb hy at_182) rfl rfl <| o_iconst W141 (v := 1) 184 (hb hy at_183) rfl rfl ?_
          refine o_iadd W141 (v := 5) 185 (hb hy at_184) (by decide) rfl <| o_istoreN W141 (L' := #[vi p0, vr b1, vi 1, vi 5]) 186 (hb hy at_185) rfl rfl <| o_iloadN W141 187 (hb hy at_186) rfl rfl <| o_ifN W141 190 (hb hy at_187) (XT.i0_eq_f (by decide)) rfl <| o_aloadN W141 191 (hb hy at_190) rfl rfl rfl ?_
          have c142 := (P140_1.keep K141 nin0)
          have c143 := ((c139.keep K140).keep K141)
          refine o_virtualC W141 (w9 hw) (w10 hw) (o_nf W141 rfl (w12 hw)) (w12 hw) (w11 hw) (by decide) c143 (w13 hw) (w2 hw) (rm149 l hw gO1 gO2 gO3 gO4 gO7 gO10 gO13 gO16 gO19 gO22 gO25 gO28 gO31 gO34 gO37 gO38 gO41 gO44 gO47 gO50 gO53 gO56 gO59 gO62 gO65 gO68 gO71 gO74 gO77 gO80 gO83 gO86 gO87 gO88 gO89 gO90 gO91 z0 z1 z2 z3 z4 z5 b1 h141 W141.old c142 c143 gz1 z6 z8 z11 VgO3 z10 z12 VgO37 z13 z14 z15 z16 z17 z18 VgO86 VgO87 XgO7 XgO1 z21 z22 VgO89 z23 z24 XgO90 z25 VgO91 z26 z7 z9) 0 62 198 (by decide) (by rw [hml]; rfl) (lenOf pd6 rfl) [] rfl rfl 194 (hb hy at_191) rfl rfl rfl (allS ⟨gz1, (Or.inr gb1)⟩ all0) tri ?_
          intro v144 T144 h144 lo144 W144 K144 q144
          obtain ⟨P144_0, rfl⟩ := q144.2.2
          show Gl _ _ _ _ _ _ _ _ [(.ref gO2)]
          refine o_iloadN W144 195 (hb hy at_194) rfl rfl ?_
          refine o_staticC W144 (w44 hw) (w45 hw) (w46 hw) (w47 hw) (by decide) (rm153 l hw gO2 h144 W144.old z9 XgO2 z31) 0 62 198 (by decide) (by rw [hml]; rfl) (lenOf pd10 rfl) [] rfl rfl 198 (hb hy at_195) rfl rfl rfl all0 tri ?_
          intro v145 T145 h145 lo145 W145 K145 q145
          obtain rfl := q145.2.2
          show Gl _ _ _ _ _ _ _ _ [(.int 1)]
          refine o_ifN W145 201 (hb hy at_198) (XT.i0_eq_f (by decide)) rfl <| o_iconst W145 (v := 1) 202 (hb hy at_201) rfl rfl <| o_goto W145 206 (hb hy at_202) (by decide) rfl <| o_istoreN W145 (L' := #[vi p0, vr b1, vi 1, vi 5]) 207 (hb hy at_206) rfl rfl <| o_iloadN W145 208 (hb hy at_207) rfl rfl ?_
          exact o_retN W145 hlk (t := .boolean) hret (by simp) (z' := (1 : Int32)) (by decide) (hb hy at_208) (by decide) (by decide) rfl
        · refine o_ifN W136 151 (hb hy at_148) (XT.i0_eq_f hq137) rfl <| o_aloadN W136 152 (hb hy at_151) rfl rfl rfl ?_
          have c146 := (P135_1.keep K136 nin0)
          have c147 := ((c134.keep K135).keep K136)
          refine o_virtualC W136 (w346 hw) (w347 hw) (o_nf W136 rfl (w349 hw)) (w349 hw) (w348 hw) (by decide) c147 (w350 hw) (w2 hw) (rm160 l hw b1 h136 W136.old c147 c146 gz1) 0 29 93 (by decide) (by rw [hml]; rfl) (lenOf pd0 rfl) [] rfl rfl 155 (hb hy at_152) rfl rfl rfl (allS ⟨gz1, (Or.inr gb1)⟩ all0) tri ?_
          intro v148 T148 h148 lo148 W148 K148 q148
          obtain ⟨P148_0, rfl⟩ := q148.2.2
          show Gl _ _ _ _ _ _ _ _ []
          refine o_iconst W148 (v := 0) 156 (hb hy at_155) rfl rfl <| o_istoreN W148 (L' := #[vi p0, vr b1, vi 1, vi 0]) 157 (hb hy at_156) rfl rfl <| o_iloadN W148 158 (hb hy at_157) rfl rfl <| o_iconst W148 (v := 1) 159 (hb hy at_158) rfl rfl <| o_iadd W148 (v := 1) 160 (hb hy at_159) (by decide) rfl <| o_istoreN W148 (L' := #[vi p0, vr b1, vi 1, vi 1]) 161 (hb hy at_160) rfl rfl ?_
          refine o_iloadN W148 162 (hb hy at_161) rfl rfl <| o_ifN W148 165 (hb hy at_162) (XT.i0_eq_f (by decide)) rfl <| o_aloadN W148 166 (hb hy at_165) rfl rfl rfl ?_
          have c149 := (c147.keep K148)
          refine o_virtualC W148 (w9 hw) (w10 hw) (o_nf W148 rfl (w12 hw)) (w12 hw) (w11 hw) (by decide) c149 (w13 hw) (w2 hw) (rm7 l hw gO1 gO2 b1 h148 W148.old P148_0 c149 gz1 z6 XgO1 z7 z8 z9) 0 29 93 (by decide) (by rw [hml]; rfl) (lenOf pd6 rfl) [] rfl rfl 169 (hb hy at_166) rfl rfl rfl (allS ⟨gz1, (Or.inr gb1)⟩ all0) tri ?_
          intro v150 T150 h150 lo150 W150 K150 q150
          obtain ⟨P150_0, rfl⟩ := q150.2.2
          show Gl _ _ _ _ _ _ _ _ [(.ref gO1)]
          refine o_iloadN W150 170 (hb hy at_169) rfl rfl ?_
          refine o_staticC W150 (w44 hw) (w45 hw) (w46 hw) (w47 hw) (by decide) (rm11 l hw gO1 h150 W150.old z8 XgO1 z10) 0 29 93 (by decide) (by rw [hml]; rfl) (lenOf pd10 rfl) [] rfl rfl 173 (hb hy at_170) rfl rfl rfl all0 tri ?_
          intro v151 T151 h151 lo151 W151 K151 q151
          obtain rfl := q151.2.2
          show Gl _ _ _ _ _ _ _ _ [(.int 1)]
          refine o_ifN W151 176 (hb hy at_173) (XT.i0_eq_f (by decide)) rfl <| o_iconst W151 (v := 1) 177 (hb hy at_176) rfl rfl <| o_goto W151 181 (hb hy at_177) (by decide) rfl <| o_istoreN W151 (L' := #[vi p0, vr b1, vi 1, vi 1]) 182 (hb hy at_181) rfl rfl <| o_iloadN W151 183 (hb hy at_182) rfl rfl <| o_iconst W151 (v := 1) 184 (hb hy at_183) rfl rfl ?_
          refine o_iadd W151 (v := 2) 185 (hb hy at_184) (by decide) rfl <| o_istoreN W151 (L' := #[vi p0, vr b1, vi 1, vi 2]) 186 (hb hy at_185) rfl rfl <| o_iloadN W151 187 (hb hy at_186) rfl rfl <| o_ifN W151 190 (hb hy at_187) (XT.i0_eq_f (by decide)) rfl <| o_aloadN W151 191 (hb hy at_190) rfl rfl rfl ?_
          have c152 := (P150_0.keep K151 nin0)
          have c153 := ((c149.keep K150).keep K151)
          refine o_virtualC W151 (w9 hw) (w10 hw) (o_nf W151 rfl (w12 hw)) (w12 hw) (w11 hw) (by decide) c153 (w13 hw) (w2 hw) (rm76 l hw gO1 gO2 gO3 gO4 gO7 gO10 gO13 gO16 gO19 gO22 gO25 gO28 gO31 gO34 gO37 gO38 gO41 gO44 gO47 gO50 gO53 gO56 gO59 gO62 gO65 gO68 gO71 gO74 gO77 gO80 gO83 gO86 gO87 gO88 gO89 gO90 gO91 z0 z1 z2 z3 z4 z5 b1 h151 W151.old c152 c153 gz1 z6 z8 z11 VgO3 z10 z12 VgO37 z13 z14 z15 z16 z17 z18 VgO86 VgO87 XgO7 XgO1 z19 z20 z21 z22 VgO89 z23 z24 XgO90 z25 VgO91 z26 z7 z9) 0 43 139 (by decide) (by rw [hml]; rfl) (lenOf pd6 rfl) [] rfl rfl 194 (hb hy at_191) rfl rfl rfl (allS ⟨gz1, (Or.inr gb1)⟩ all0) tri ?_
          intro v154 T154 h154 lo154 W154 K154 q154
          obtain ⟨r1_154, P154_0, P154_1, P154_2, P154_3, P154_4, rfl⟩ := q154.2.2
          show Gl _ _ _ _ _ _ _ _ [(.ref r1_154)]
          refine o_iloadN W154 195 (hb hy at_194) rfl rfl ?_
          refine o_staticC W154 (w44 hw) (w45 hw) (w46 hw) (w47 hw) (by decide) (rm80 l hw r1_154 h154 W154.old P154_2 P154_3 P154_4) 0 43 139 (by decide) (by rw [hml]; rfl) (lenOf pd10 rfl) [] rfl rfl 198 (hb hy at_195) rfl rfl rfl all0 tri ?_
          intro v155 T155 h155 lo155 W155 K155 q155
          obtain rfl := q155.2.2
          show Gl _ _ _ _ _ _ _ _ [(.int 1)]
          refine o_ifN W155 201 (hb hy at_198) (XT.i0_eq_f (by decide)) rfl <| o_iconst W155 (v := 1) 202 (hb hy at_201) rfl rfl <| o_goto W155 206 (hb hy at_202) (by decide) rfl <| o_istoreN W155 (L' := #[vi p0, vr b1, vi 1, vi 2]) 207 (hb hy at_206) rfl rfl <| o_iloadN W155 208 (hb hy at_207) rfl rfl ?_
          exact o_retN W155 hlk (t := .boolean) hret (by simp) (z' := (1 : Int32)) (by decide) (hb hy at_208) (by decide) (by decide) rfl
      · refine o_ifN W131 113 (hb hy at_110) (XT.i0_eq_f hq132) rfl <| o_aloadN W131 114 (hb hy at_113) rfl rfl rfl ?_
        have c156 := (P130_1.keep K131 nin0)
        have c157 := ((c129.keep K130).keep K131)
        refine o_virtualC W131 (w346 hw) (w347 hw) (o_nf W131 rfl (w349 hw)) (w349 hw) (w348 hw) (by decide) c157 (w350 hw) (w2 hw) (rm162 l hw b1 h131 W131.old c157 c156 gz1) 0 15 47 (by decide) (by rw [hml]; rfl) (lenOf pd0 rfl) [] rfl rfl 117 (hb hy at_114) rfl rfl rfl (allS ⟨gz1, (Or.inr gb1)⟩ all0) tri ?_
        intro v158 T158 h158 lo158 W158 K158 q158
        obtain ⟨P158_0, rfl⟩ := q158.2.2
        show Gl _ _ _ _ _ _ _ _ []
        refine o_iconst W158 (v := 0) 118 (hb hy at_117) rfl rfl <| o_istoreN W158 (L' := #[vi p0, vr b1, vi 1, vi 0]) 119 (hb hy at_118) rfl rfl <| o_iloadN W158 120 (hb hy at_119) rfl rfl <| o_iconst W158 (v := 1) 121 (hb hy at_120) rfl rfl <| o_iadd W158 (v := 1) 122 (hb hy at_121) (by decide) rfl <| o_istoreN W158 (L' := #[vi p0, vr b1, vi 1, vi 1]) 123 (hb hy at_122) rfl rfl ?_
        refine o_iloadN W158 124 (hb hy at_123) rfl rfl <| o_ifN W158 127 (hb hy at_124) (XT.i0_eq_f (by decide)) rfl <| o_aloadN W158 128 (hb hy at_127) rfl rfl rfl ?_
        have c159 := (c157.keep K158)
        refine o_virtualC W158 (w9 hw) (w10 hw) (o_nf W158 rfl (w12 hw)) (w12 hw) (w11 hw) (by decide) c159 (w13 hw) (w2 hw) (rm7 l hw gO1 gO2 b1 h158 W158.old P158_0 c159 gz1 z6 XgO1 z7 z8 z9) 0 15 47 (by decide) (by rw [hml]; rfl) (lenOf pd6 rfl) [] rfl rfl 131 (hb hy at_128) rfl rfl rfl (allS ⟨gz1, (Or.inr gb1)⟩ all0) tri ?_
        intro v160 T160 h160 lo160 W160 K160 q160
        obtain ⟨P160_0, rfl⟩ := q160.2.2
        show Gl _ _ _ _ _ _ _ _ [(.ref gO1)]
        refine o_iloadN W160 132 (hb hy at_131) rfl rfl ?_
        refine o_staticC W160 (w44 hw) (w45 hw) (w46 hw) (w47 hw) (by decide) (rm11 l hw gO1 h160 W160.old z8 XgO1 z10) 0 15 47 (by decide) (by rw [hml]; rfl) (lenOf pd10 rfl) [] rfl rfl 135 (hb hy at_132) rfl rfl rfl all0 tri ?_
        intro v161 T161 h161 lo161 W161 K161 q161
        obtain rfl := q161.2.2
        show Gl _ _ _ _ _ _ _ _ [(.int 1)]
        refine o_ifN W161 138 (hb hy at_135) (XT.i0_eq_f (by decide)) rfl <| o_iconst W161 (v := 1) 139 (hb hy at_138) rfl rfl <| o_goto W161 143 (hb hy at_139) (by decide) rfl <| o_istoreN W161 (L' := #[vi p0, vr b1, vi 1, vi 1]) 144 (hb hy at_143) rfl rfl <| o_iloadN W161 145 (hb hy at_144) rfl rfl <| o_bipush W161 (v := 8) 147 (hb hy at_145) (by decide) rfl ?_
        refine o_iand W161 (v := (p0 &&& 8)) 148 (hb hy at_147) rfl rfl ?_
        by_cases hq162 : (p0 &&& 8) = (0 : Int32)
        · refine o_ifY W161 157 (hb hy at_148) (XT.i0_eq_t hq162) (by decide) rfl <| o_iloadN W161 158 (hb hy at_157) rfl rfl <| o_iconst W161 (v := 1) 159 (hb hy at_158) rfl rfl <| o_iadd W161 (v := 2) 160 (hb hy at_159) (by decide) rfl <| o_istoreN W161 (L' := #[vi p0, vr b1, vi 1, vi 2]) 161 (hb hy at_160) rfl rfl <| o_iloadN W161 162 (hb hy at_161) rfl rfl ?_
          refine o_ifN W161 165 (hb hy at_162) (XT.i0_eq_f (by decide)) rfl <| o_aloadN W161 166 (hb hy at_165) rfl rfl rfl ?_
          have c163 := (P160_0.keep K161 nin0)
          have c164 := ((c159.keep K160).keep K161)
          refine o_virtualC W161 (w9 hw) (w10 hw) (o_nf W161 rfl (w12 hw)) (w12 hw) (w11 hw) (by decide) c164 (w13 hw) (w2 hw) (rm76 l hw gO1 gO2 gO3 gO4 gO7 gO10 gO13 gO16 gO19 gO22 gO25 gO28 gO31 gO34 gO37 gO38 gO41 gO44 gO47 gO50 gO53 gO56 gO59 gO62 gO65 gO68 gO71 gO74 gO77 gO80 gO83 gO86 gO87 gO88 gO89 gO90 gO91 z0 z1 z2 z3 z4 z5 b1 h161 W161.old c163 c164 gz1 z6 z8 z11 VgO3 z10 z12 VgO37 z13 z14 z15 z16 z17 z18 VgO86 VgO87 XgO7 XgO1 z19 z20 z21 z22 VgO89 z23 z24 XgO90 z25 VgO91 z26 z7 z9) 0 29 93 (by decide) (by rw [hml]; rfl) (lenOf pd6 rfl) [] rfl rfl 169 (hb hy at_166) rfl rfl rfl (allS ⟨gz1, (Or.inr gb1)⟩ all0) tri ?_
          intro v165 T165 h165 lo165 W165 K165 q165
          obtain ⟨r1_165, P165_0, P165_1, P165_2, P165_3, P165_4, rfl⟩ := q165.2.2
          show Gl _ _ _ _ _ _ _ _ [(.ref r1_165)]
          refine o_iloadN W165 170 (hb hy at_169) rfl rfl ?_
          refine o_staticC W165 (w44 hw) (w45 hw) (w46 hw) (w47 hw) (by decide) (rm80 l hw r1_165 h165 W165.old P165_2 P165_3 P165_4) 0 29 93 (by decide) (by rw [hml]; rfl) (lenOf pd10 rfl) [] rfl rfl 173 (hb hy at_170) rfl rfl rfl all0 tri ?_
          intro v166 T166 h166 lo166 W166 K166 q166
          obtain rfl := q166.2.2
          show Gl _ _ _ _ _ _ _ _ [(.int 1)]
          refine o_ifN W166 176 (hb hy at_173) (XT.i0_eq_f (by decide)) rfl <| o_iconst W166 (v := 1) 177 (hb hy at_176) rfl rfl <| o_goto W166 181 (hb hy at_177) (by decide) rfl <| o_istoreN W166 (L' := #[vi p0, vr b1, vi 1, vi 2]) 182 (hb hy at_181) rfl rfl <| o_iloadN W166 183 (hb hy at_182) rfl rfl <| o_iconst W166 (v := 1) 184 (hb hy at_183) rfl rfl ?_
          refine o_iadd W166 (v := 3) 185 (hb hy at_184) (by decide) rfl <| o_istoreN W166 (L' := #[vi p0, vr b1, vi 1, vi 3]) 186 (hb hy at_185) rfl rfl <| o_iloadN W166 187 (hb hy at_186) rfl rfl <| o_ifN W166 190 (hb hy at_187) (XT.i0_eq_f (by decide)) rfl <| o_aloadN W166 191 (hb hy at_190) rfl rfl rfl ?_
          have c167 := (P165_1.keep K166 nin0)
          have c168 := ((c164.keep K165).keep K166)
          refine o_virtualC W166 (w9 hw) (w10 hw) (o_nf W166 rfl (w12 hw)) (w12 hw) (w11 hw) (by decide) c168 (w13 hw) (w2 hw) (rm95 l hw gO1 gO2 gO3 gO4 gO7 gO10 gO13 gO16 gO19 gO22 gO25 gO28 gO31 gO34 gO37 gO38 gO41 gO44 gO47 gO50 gO53 gO56 gO59 gO62 gO65 gO68 gO71 gO74 gO77 gO80 gO83 gO86 gO87 gO88 gO89 gO90 gO91 z0 z1 z2 z3 z4 z5 b1 h166 W166.old c167 c168 gz1 z6 z8 z11 VgO3 z10 z12 VgO37 z13 z14 z15 z16 z17 z18 VgO86 VgO87 XgO7 XgO1 z27 z28 z21 z22 VgO89 z23 z24 XgO90 z25 VgO91 z26 z7 z9) 0 43 139 (by decide) (by rw [hml]; rfl) (lenOf pd6 rfl) [] rfl rfl 194 (hb hy at_191) rfl rfl rfl (allS ⟨gz1, (Or.inr gb1)⟩ all0) tri ?_
          intro v169 T169 h169 lo169 W169 K169 q169
          obtain ⟨r1_169, P169_0, P169_1, P169_2, P169_3, P169_4, rfl⟩ := q169.2.2
          show Gl _ _ _ _ _ _ _ _ [(.ref r1_169)]
          refine o_iloadN W169 195 (hb hy at_194) rfl rfl ?_
          refine o_staticC W169 (w44 hw) (w45 hw) (w46 hw) (w47 hw) (by decide) (rm98 l hw r1_169 h169 W169.old P169_2 P169_3 P169_4) 0 43 139 (by decide) (by rw [hml]; rfl) (lenOf pd10 rfl) [] rfl rfl 198 (hb hy at_195) rfl rfl rfl all0 tri ?_
          intro v170 T170 h170 lo170 W170 K170 q170
          obtain rfl := q170.2.2
          show Gl _ _ _ _ _ _ _ _ [(.int 1)]
          refine o_ifN W170 201 (hb hy at_198) (XT.i0_eq_f (by decide)) rfl <| o_iconst W170 (v := 1) 202 (hb hy at_201) rfl rfl <| o_goto W170 206 (hb hy at_202) (by decide) rfl <| o_istoreN W170 (L' := #[vi p0, vr b1, vi 1, vi 3]) 207 (hb hy at_206) rfl rfl <| o_iloadN W170 208 (hb hy at_207) rfl rfl ?_
          exact o_retN W170 hlk (t := .boolean) hret (by simp) (z' := (1 : Int32)) (by decide) (hb hy at_208) (by decide) (by decide) rfl
        · refine o_ifN W161 151 (hb hy at_148) (XT.i0_eq_f hq162) rfl <| o_aloadN W161 152 (hb hy at_151) rfl rfl rfl ?_
          have c171 := (P160_0.keep K161 nin0)
          have c172 := ((c159.keep K160).keep K161)
          refine o_virtualC W161 (w346 hw) (w347 hw) (o_nf W161 rfl (w349 hw)) (w349 hw) (w348 hw) (by decide) c172 (w350 hw) (w2 hw) (rm161 l hw b1 h161 W161.old c172 c171 gz1) 0 15 47 (by decide) (by rw [hml]; rfl) (lenOf pd0 rfl) [] rfl rfl 155 (hb hy at_152) rfl rfl rfl (allS ⟨gz1, (Or.inr gb1)⟩ all0) tri ?_
          intro v173 T173 h173 lo173 W173 K173 q173
          obtain ⟨P173_0, rfl⟩ := q173.2.2
          show Gl _ _ _ _ _ _ _ _ []
          refine o_iconst W173 (v := 0) 156 (hb hy at_155) rfl rfl <| o_istoreN W173 (L' := #[vi p0, vr b1, vi 1, vi 0]) 157 (hb hy at_156) rfl rfl <| o_iloadN W173 158 (hb hy at_157) rfl rfl <| o_iconst W173 (v := 1) 159 (hb hy at_158) rfl rfl <| o_iadd W173 (v := 1) 160 (hb hy at_159) (by decide) rfl <| o_istoreN W173 (L' := #[vi p0, vr b1, vi 1, vi 1]) 161 (hb hy at_160) rfl rfl ?_
          refine o_iloadN W173 162 (hb hy at_161) rfl rfl <| o_ifN W173 165 (hb hy at_162) (XT.i0_eq_f (by decide)) rfl <| o_aloadN W173 166 (hb hy at_165) rfl rfl rfl ?_
          have c174 := (c172.keep K173)
          refine o_virtualC W173 (w9 hw) (w10 hw) (o_nf W173 rfl (w12 hw)) (w12 hw) (w11 hw) (by decide) c174 (w13 hw) (w2 hw) (rm7 l hw gO1 gO2 b1 h173 W173.old P173_0 c174 gz1 z6 XgO1 z7 z8 z9) 0 15 47 (by decide) (by rw [hml]; rfl) (lenOf pd6 rfl) [] rfl rfl 169 (hb hy at_166) rfl rfl rfl (allS ⟨gz1, (Or.inr gb1)⟩ all0) tri ?_
          intro v175 T175 h175 lo175 W175 K175 q175
          obtain ⟨P175_0, rfl⟩ := q175.2.2
          show Gl _ _ _ _ _ _ _ _ [(.ref gO1)]
          refine o_iloadN W175 170 (hb hy at_169) rfl rfl ?_
          refine o_staticC W175 (w44 hw) (w45 hw) (w46 hw) (w47 hw) (by decide) (rm11 l hw gO1 h175 W175.old z8 XgO1 z10) 0 15 47 (by decide) (by rw [hml]; rfl) (lenOf pd10 rfl) [] rfl rfl 173 (hb hy at_170) rfl rfl rfl all0 tri ?_
          intro v176 T176 h176 lo176 W176 K176 q176
          obtain rfl := q176.2.2
          show Gl _ _ _ _ _ _ _ _ [(.int 1)]
          refine o_ifN W176 176 (hb hy at_173) (XT.i0_eq_f (by decide)) rfl <| o_iconst W176 (v := 1) 177 (hb hy at_176) rfl rfl <| o_goto W176 181 (hb hy at_177) (by decide) rfl <| o_istoreN W176 (L' := #[vi p0, vr b1, vi 1, vi 1]) 182 (hb hy at_181) rfl rfl <| o_iloadN W176 183 (hb hy at_182) rfl rfl <| o_iconst W176 (v := 1) 184 (hb hy at_183) rfl rfl ?_
          refine o_iadd W176 (v := 2) 185 (hb hy at_184) (by decide) rfl <| o_istoreN W176 (L' := #[vi p0, vr b1, vi 1, vi 2]) 186 (hb hy at_185) rfl rfl <| o_iloadN W176 187 (hb hy at_186) rfl rfl <| o_ifN W176 190 (hb hy at_187) (XT.i0_eq_f (by decide)) rfl <| o_aloadN W176 191 (hb hy at_190) rfl rfl rfl ?_
          have c177 := (P175_0.keep K176 nin0)
          have c178 := ((c174.keep K175).keep K176)
          refine o_virtualC W176 (w9 hw) (w10 hw) (o_nf W176 rfl (w12 hw)) (w12 hw) (w11 hw) (by decide) c178 (w13 hw) (w2 hw) (rm76 l hw gO1 gO2 gO3 gO4 gO7 gO10 gO13 gO16 gO19 gO22 gO25 gO28 gO31 gO34 gO37 gO38 gO41 gO44 gO47 gO50 gO53 gO56 gO59 gO62 gO65 gO68 gO71 gO74 gO77 gO80 gO83 gO86 gO87 gO88 gO89 gO90 gO91 z0 z1 z2 z3 z4 z5 b1 h176 W176.old c177 c178 gz1 z6 z8 z11 VgO3 z10 z12 VgO37 z13 z14 z15 z16 z17 z18 VgO86 VgO87 XgO7 XgO1 z19 z20 z21 z22 VgO89 z23 z24 XgO90 z25 VgO91 z26 z7 z9) 0 29 93 (by decide) (by rw [hml]; rfl) (lenOf pd6 rfl) [] rfl rfl 194 (hb hy at_191) rfl rfl rfl (allS ⟨gz1, (Or.inr gb1)⟩ all0) tri ?_
          intro v179 T179 h179 lo179 W179 K179 q179
          obtain ⟨r1_179, P179_0, P179_1, P179_2, P179_3, P179_4, rfl⟩ := q179.2.2
          show Gl _ _ _ _ _ _ _ _ [(.ref r1_179)]
          refine o_iloadN W179 195 (hb hy at_194) rfl rfl ?_
          refine o_staticC W179 (w44 hw) (w45 hw) (w46 hw) (w47 hw) (by decide) (rm80 l hw r1_179 h179 W179.old P179_2 P179_3 P179_4) 0 29 93 (by decide) (by rw [hml]; rfl) (lenOf pd10 rfl) [] rfl rfl 198 (hb hy at_195) rfl rfl rfl all0 tri ?_
          intro v180 T180 h180 lo180 W180 K180 q180
          obtain rfl := q180.2.2
          show Gl _ _ _ _ _ _ _ _ [(.int 1)]
          refine o_ifN W180 201 (hb hy at_198) (XT.i0_eq_f (by decide)) rfl <| o_iconst W180 (v := 1) 202 (hb hy at_201) rfl rfl <| o_goto W180 206 (hb hy at_202) (by decide) rfl <| o_istoreN W180 (L' := #[vi p0, vr b1, vi 1, vi 2]) 207 (hb hy at_206) rfl rfl <| o_iloadN W180 208 (hb hy at_207) rfl rfl ?_
          exact o_retN W180 hlk (t := .boolean) hret (by simp) (z' := (1 : Int32)) (by decide) (hb hy at_208) (by decide) (by decide) rfl
    · refine o_ifN W126 76 (hb hy at_73) (XT.i0_eq_f hq127) rfl <| o_aloadN W126 77 (hb hy at_76) rfl rfl rfl ?_
      have c181 := (P125_0.keep K126 nin0)
      have c182 := ((c124.keep K125).keep K126)
      refine o_virtualC W126 (w346 hw) (w347 hw) (o_nf W126 rfl (w349 hw)) (w349 hw) (w348 hw) (by decide) c182 (w350 hw) (w2 hw) (rm161 l hw b1 h126 W126.old c182 c181 gz1) 0 1 1 (by decide) (by rw [hml]; rfl) (lenOf pd0 rfl) [] rfl rfl 80 (hb hy at_77) rfl rfl rfl (allS ⟨gz1, (Or.inr gb1)⟩ all0) tri ?_
      intro v183 T183 h183 lo183 W183 K183 q183
      obtain ⟨P183_0, rfl⟩ := q183.2.2
      show Gl _ _ _ _ _ _ _ _ []
      refine o_iconst W183 (v := 0) 81 (hb hy at_80) rfl rfl <| o_istoreN W183 (L' := #[vi p0, vr b1, vi 1, vi 0]) 82 (hb hy at_81) rfl rfl <| o_iloadN W183 83 (hb hy at_82) rfl rfl <| o_iconst W183 (v := 1) 84 (hb hy at_83) rfl rfl <| o_iadd W183 (v := 1) 85 (hb hy at_84) (by decide) rfl <| o_istoreN W183 (L' := #[vi p0, vr b1, vi 1, vi 1]) 86 (hb hy at_85) rfl rfl ?_
      refine o_iloadN W183 87 (hb hy at_86) rfl rfl <| o_ifN W183 90 (hb hy at_87) (XT.i0_eq_f (by decide)) rfl <| o_aloadN W183 91 (hb hy at_90) rfl rfl rfl ?_
      have c184 := (c182.keep K183)
      refine o_virtualC W183 (w9 hw) (w10 hw) (o_nf W183 rfl (w12 hw)) (w12 hw) (w11 hw) (by decide) c184 (w13 hw) (w2 hw) (rm7 l hw gO1 gO2 b1 h183 W183.old P183_0 c184 gz1 z6 XgO1 z7 z8 z9) 0 1 1 (by decide) (by rw [hml]; rfl) (lenOf pd6 rfl) [] rfl rfl 94 (hb hy at_91) rfl rfl rfl (allS ⟨gz1, (Or.inr gb1)⟩ all0) tri ?_
      intro v185 T185 h185 lo185 W185 K185 q185
      obtain ⟨P185_0, rfl⟩ := q185.2.2
      show Gl _ _ _ _ _ _ _ _ [(.ref gO1)]
      refine o_iloadN W185 95 (hb hy at_94) rfl rfl ?_
      refine o_staticC W185 (w44 hw) (w45 hw) (w46 hw) (w47 hw) (by decide) (rm11 l hw gO1 h185 W185.old z8 XgO1 z10) 0 1 1 (by decide) (by rw [hml]; rfl) (lenOf pd10 rfl) [] rfl rfl 98 (hb hy at_95) rfl rfl rfl all0 tri ?_
      intro v186 T186 h186 lo186 W186 K186 q186
      obtain rfl := q186.2.2
      show Gl _ _ _ _ _ _ _ _ [(.int 1)]
      refine o_ifN W186 101 (hb hy at_98) (XT.i0_eq_f (by decide)) rfl <| o_iconst W186 (v := 1) 102 (hb hy at_101) rfl rfl <| o_goto W186 106 (hb hy at_102) (by decide) rfl <| o_istoreN W186 (L' := #[vi p0, vr b1, vi 1, vi 1]) 107 (hb hy at_106) rfl rfl <| o_iloadN W186 108 (hb hy at_107) rfl rfl <| o_iconst W186 (v := 4) 109 (hb hy at_108) rfl rfl ?_
      refine o_iand W186 (v := (p0 &&& 4)) 110 (hb hy at_109) rfl rfl ?_
      by_cases hq187 : (p0 &&& 4) = (0 : Int32)
      · refine o_ifY W186 119 (hb hy at_110) (XT.i0_eq_t hq187) (by decide) rfl <| o_iloadN W186 120 (hb hy at_119) rfl rfl <| o_iconst W186 (v := 1) 121 (hb hy at_120) rfl rfl <| o_iadd W186 (v := 2) 122 (hb hy at_121) (by decide) rfl <| o_istoreN W186 (L' := #[vi p0, vr b1, vi 1, vi 2]) 123 (hb hy at_122) rfl rfl <| o_iloadN W186 124 (hb hy at_123) rfl rfl ?_
        refine o_ifN W186 127 (hb hy at_124) (XT.i0_eq_f (by decide)) rfl <| o_aloadN W186 128 (hb hy at_127) rfl rfl rfl ?_
        have c188 := (P185_0.keep K186 nin0)
        have c189 := ((c184.keep K185).keep K186)
        refine o_virtualC W186 (w9 hw) (w10 hw) (o_nf W186 rfl (w12 hw)) (w12 hw) (w11 hw) (by decide) c189 (w13 hw) (w2 hw) (rm76 l hw gO1 gO2 gO3 gO4 gO7 gO10 gO13 gO16 gO19 gO22 gO25 gO28 gO31 gO34 gO37 gO38 gO41 gO44 gO47 gO50 gO53 gO56 gO59 gO62 gO65 gO68 gO71 gO74 gO77 gO80 gO83 gO86 gO87 gO88 gO89 gO90 gO91 z0 z1 z2 z3 z4 z5 b1 h186 W186.old c188 c189 gz1 z6 z8 z11 VgO3 z10 z12 VgO37 z13 z14 z15 z16 z17 z18 VgO86 VgO87 XgO7 XgO1 z19 z20 z21 z22 VgO89 z23 z24 XgO90 z25 VgO91 z26 z7 z9) 0 15 47 (by decide) (by rw [hml]; rfl) (lenOf pd6 rfl) [] rfl rfl 131 (hb hy at_128) rfl rfl rfl (allS ⟨gz1, (Or.inr gb1)⟩ all0) tri ?_
        intro v190 T190 h190 lo190 W190 K190 q190
        obtain ⟨r1_190, P190_0, P190_1, P190_2, P190_3, P190_4, rfl⟩ := q190.2.2
        show Gl _ _ _ _ _ _ _ _ [(.ref r1_190)]
        refine o_iloadN W190 132 (hb hy at_131) rfl rfl ?_
        refine o_staticC W190 (w44 hw) (w45 hw) (w46 hw) (w47 hw) (by decide) (rm80 l hw r1_190 h190 W190.old P190_2 P190_3 P190_4) 0 15 47 (by decide) (by rw [hml]; rfl) (lenOf pd10 rfl) [] rfl rfl 135 (hb hy at_132) rfl rfl rfl all0 tri ?_
        intro v191 T191 h191 lo191 W191 K191 q191
        obtain rfl := q191.2.2
        show Gl _ _ _ _ _ _ _ _ [(.int 1)]
        refine o_ifN W191 138 (hb hy at_135) (XT.i0_eq_f (by decide)) rfl <| o_iconst W191 (v := 1) 139 (hb hy at_138) rfl rfl <| o_goto W191 143 (hb hy at_139) (by decide) rfl <| o_istoreN W191 (L' := #[vi p0, vr b1, vi 1, vi 2]) 144 (hb hy at_143) rfl rfl <| o_iloadN W191 145 (hb hy at_144) rfl rfl <| o_bipush W191 (v := 8) 147 (hb hy at_145) (by decide) rfl ?_
        refine o_iand W191 (v := (p0 &&& 8)) 148 (hb hy at_147) rfl rfl ?_
        by_cases hq192 : (p0 &&& 8) = (0 : Int32)
        · refine o_ifY W191 157 (hb hy at_148) (XT.i0_eq_t hq192) (by decide) rfl <| o_iloadN W191 158 (hb hy at_157) rfl rfl <| o_iconst W191 (v := 1) 159 (hb hy at_158) rfl rfl <| o_iadd W191 (v := 3) 160 (hb hy at_159) (by decide) rfl <| o_istoreN W191 (L' := #[vi p0, vr b1, vi 1, vi 3]) 161 (hb hy at_160) rfl rfl <| o_iloadN W191 162 (hb hy at_161) rfl rfl ?_
          refine o_ifN W191 165 (hb hy at_162) (XT.i0_eq_f (by decide)) rfl <| o_aloadN W191 166 (hb hy at_165) rfl rfl rfl ?_
          have c193 := (P190_1.keep K191 nin0)
          have c194 := ((c189.keep K190).keep K191)
          refine o_virtualC W191 (w9 hw) (w10 hw) (o_nf W191 rfl (w12 hw)) (w12 hw) (w11 hw) (by decide) c194 (w13 hw) (w2 hw) (rm95 l hw gO1 gO2 gO3 gO4 gO7 gO10 gO13 gO16 gO19 gO22 gO25 gO28 gO31 gO34 gO37 gO38 gO41 gO44 gO47 gO50 gO53 gO56 gO59 gO62 gO65 gO68 gO71 gO74 gO77 gO80 gO83 gO86 gO87 gO88 gO89 gO90 gO91 z0 z1 z2 z3 z4 z5 b1 h191 W191.old c193 c194 gz1 z6 z8 z11 VgO3 z10 z12 VgO37 z13 z14 z15 z16 z17 z18 VgO86 VgO87 XgO7 XgO1 z27 z28 z21 z22 VgO89 z23 z24 XgO90 z25 VgO91 z26 z7 z9) 0 29 93 (by decide) (by rw [hml]; rfl) (lenOf pd6 rfl) [] rfl rfl 169 (hb hy at_166) rfl rfl rfl (allS ⟨gz1, (Or.inr gb1)⟩ all0) tri ?_
          intro v195 T195 h195 lo195 W195 K195 q195
          obtain ⟨r1_195, P195_0, P195_1, P195_2, P195_3, P195_4, rfl⟩ := q195.2.2
          show Gl _ _ _ _ _ _ _ _ [(.ref r1_195)]
          refine o_iloadN W195 170 (hb hy at_169) rfl rfl ?_
          refine o_staticC W195 (w44 hw) (w45 hw) (w46 hw) (w47 hw) (by decide) (rm98 l hw r1_195 h195 W195.old P195_2 P195_3 P195_4) 0 29 93 (by decide) (by rw [hml]; rfl) (lenOf pd10 rfl) [] rfl rfl 173 (hb hy at_170) rfl rfl rfl all0 tri ?_
          intro v196 T196 h196 lo196 W196 K196 q196
          obtain rfl := q196.2.2
          show Gl _ _ _ _ _ _ _ _ [(.int 1)]
          refine o_ifN W196 176 (hb hy at_173) (XT.i0_eq_f (by decide)) rfl <| o_iconst W196 (v := 1) 177 (hb hy at_176) rfl rfl <| o_goto W196 181 (hb hy at_177) (by decide) rfl <| o_istoreN W196 (L' := #[vi p0, vr b1, vi 1, vi 3]) 182 (hb hy at_181) rfl rfl <| o_iloadN W196 183 (hb hy at_182) rfl rfl <| o_iconst W196 (v := 1) 184 (hb hy at_183) rfl rfl ?_
          refine o_iadd W196 (v := 4) 185 (hb hy at_184) (by decide) rfl <| o_istoreN W196 (L' := #[vi p0, vr b1, vi 1, vi 4]) 186 (hb hy at_185) rfl rfl <| o_iloadN W196 187 (hb hy at_186) rfl rfl <| o_ifN W196 190 (hb hy at_187) (XT.i0_eq_f (by decide)) rfl <| o_aloadN W196 191 (hb hy at_190) rfl rfl rfl ?_
          have c197 := (P195_1.keep K196 nin0)
          have c198 := ((c194.keep K195).keep K196)
          refine o_virtualC W196 (w9 hw) (w10 hw) (o_nf W196 rfl (w12 hw)) (w12 hw) (w11 hw) (by decide) c198 (w13 hw) (w2 hw) (rm130 l hw gO1 gO2 gO3 gO4 gO7 gO10 gO13 gO16 gO19 gO22 gO25 gO28 gO31 gO34 gO37 gO38 gO41 gO44 gO47 gO50 gO53 gO56 gO59 gO62 gO65 gO68 gO71 gO74 gO77 gO80 gO83 gO86 gO87 gO88 gO89 gO90 gO91 z0 z1 z2 z3 z4 z5 b1 h196 W196.old c197 c198 gz1 z6 z8 z11 VgO3 z10 z12 VgO37 z13 z14 z15 z16 z17 z18 VgO86 VgO87 XgO7 XgO1 z29 z30 z21 z22 VgO89 z23 z24 XgO90 z25 VgO91 z26 z7 z9) 0 45 143 (by decide) (by rw [hml]; rfl) (lenOf pd6 rfl) [] rfl rfl 194 (hb hy at_191) rfl rfl rfl (allS ⟨gz1, (Or.inr gb1)⟩ all0) tri ?_
          intro v199 T199 h199 lo199 W199 K199 q199
          obtain ⟨r1_199, P199_0, P199_1, P199_2, P199_3, P199_4, rfl⟩ := q199.2.2
          show Gl _ _ _ _ _ _ _ _ [(.ref r1_199)]
          refine o_iloadN W199 195 (hb hy at_194) rfl rfl ?_
          refine o_staticC W199 (w44 hw) (w45 hw) (w46 hw) (w47 hw) (by decide) (rm133 l hw r1_199 h199 W199.old P199_2 P199_3 P199_4) 0 45 143 (by decide) (by rw [hml]; rfl) (lenOf pd10 rfl) [] rfl rfl 198 (hb hy at_195) rfl rfl rfl all0 tri ?_
          intro v200 T200 h200 lo200 W200 K200 q200
          obtain rfl := q200.2.2
          show Gl _ _ _ _ _ _ _ _ [(.int 1)]
          refine o_ifN W200 201 (hb hy at_198) (XT.i0_eq_f (by decide)) rfl <| o_iconst W200 (v := 1) 202 (hb hy at_201) rfl rfl <| o_goto W200 206 (hb hy at_202) (by decide) rfl <| o_istoreN W200 (L' := #[vi p0, vr b1, vi 1, vi 4]) 207 (hb hy at_206) rfl rfl <| o_iloadN W200 208 (hb hy at_207) rfl rfl ?_
          exact o_retN W200 hlk (t := .boolean) hret (by simp) (z' := (1 : Int32)) (by decide) (hb hy at_208) (by decide) (by decide) rfl
        · refine o_ifN W191 151 (hb hy at_148) (XT.i0_eq_f hq192) rfl <| o_aloadN W191 152 (hb hy at_151) rfl rfl rfl ?_
          have c201 := (P190_1.keep K191 nin0)
          have c202 := ((c189.keep K190).keep K191)
          refine o_virtualC W191 (w346 hw) (w347 hw) (o_nf W191 rfl (w349 hw)) (w349 hw) (w348 hw) (by decide) c202 (w350 hw) (w2 hw) (rm162 l hw b1 h191 W191.old c202 c201 gz1) 0 15 47 (by decide) (by rw [hml]; rfl) (lenOf pd0 rfl) [] rfl rfl 155 (hb hy at_152) rfl rfl rfl (allS ⟨gz1, (Or.inr gb1)⟩ all0) tri ?_
          intro v203 T203 h203 lo203 W203 K203 q203
          obtain ⟨P203_0, rfl⟩ := q203.2.2
          show Gl _ _ _ _ _ _ _ _ []
          refine o_iconst W203 (v := 0) 156 (hb hy at_155) rfl rfl <| o_istoreN W203 (L' := #[vi p0, vr b1, vi 1, vi 0]) 157 (hb hy at_156) rfl rfl <| o_iloadN W203 158 (hb hy at_157) rfl rfl <| o_iconst W203 (v := 1) 159 (hb hy at_158) rfl rfl <| o_iadd W203 (v := 1) 160 (hb hy at_159) (by decide) rfl <| o_istoreN W203 (L' := #[vi p0, vr b1, vi 1, vi 1]) 161 (hb hy at_160) rfl rfl ?_
          refine o_iloadN W203 162 (hb hy at_161) rfl rfl <| o_ifN W203 165 (hb hy at_162) (XT.i0_eq_f (by decide)) rfl <| o_aloadN W203 166 (hb hy at_165) rfl rfl rfl ?_
          have c204 := (c202.keep K203)
          refine o_virtualC W203 (w9 hw) (w10 hw) (o_nf W203 rfl (w12 hw)) (w12 hw) (w11 hw) (by decide) c204 (w13 hw) (w2 hw) (rm7 l hw gO1 gO2 b1 h203 W203.old P203_0 c204 gz1 z6 XgO1 z7 z8 z9) 0 15 47 (by decide) (by rw [hml]; rfl) (lenOf pd6 rfl) [] rfl rfl 169 (hb hy at_166) rfl rfl rfl (allS ⟨gz1, (Or.inr gb1)⟩ all0) tri ?_
          intro v205 T205 h205 lo205 W205 K205 q205
          obtain ⟨P205_0, rfl⟩ := q205.2.2
          show Gl _ _ _ _ _ _ _ _ [(.ref gO1)]
          refine o_iloadN W205 170 (hb hy at_169) rfl rfl ?_
          refine o_staticC W205 (w44 hw) (w45 hw) (w46 hw) (w47 hw) (by decide) (rm11 l hw gO1 h205 W205.old z8 XgO1 z10) 0 15 47 (by decide) (by rw [hml]; rfl) (lenOf pd10 rfl) [] rfl rfl 173 (hb hy at_170) rfl rfl rfl all0 tri ?_
          intro v206 T206 h206 lo206 W206 K206 q206
          obtain rfl := q206.2.2
          show Gl _ _ _ _ _ _ _ _ [(.int 1)]
          refine o_ifN W206 176 (hb hy at_173) (XT.i0_eq_f (by decide)) rfl <| o_iconst W206 (v := 1) 177 (hb hy at_176) rfl rfl <| o_goto W206 181 (hb hy at_177) (by decide) rfl <| o_istoreN W206 (L' := #[vi p0, vr b1, vi 1, vi 1]) 182 (hb hy at_181) rfl rfl <| o_iloadN W206 183 (hb hy at_182) rfl rfl <| o_iconst W206 (v := 1) 184 (hb hy at_183) rfl rfl ?_
          refine o_iadd W206 (v := 2) 185 (hb hy at_184) (by decide) rfl <| o_istoreN W206 (L' := #[vi p0, vr b1, vi 1, vi 2]) 186 (hb hy at_185) rfl rfl <| o_iloadN W206 187 (hb hy at_186) rfl rfl <| o_ifN W206 190 (hb hy at_187) (XT.i0_eq_f (by decide)) rfl <| o_aloadN W206 191 (hb hy at_190) rfl rfl rfl ?_
          have c207 := (P205_0.keep K206 nin0)
          have c208 := ((c204.keep K205).keep K206)
          refine o_virtualC W206 (w9 hw) (w10 hw) (o_nf W206 rfl (w12 hw)) (w12 hw) (w11 hw) (by decide) c208 (w13 hw) (w2 hw) (rm76 l hw gO1 gO2 gO3 gO4 gO7 gO10 gO13 gO16 gO19 gO22 gO25 gO28 gO31 gO34 gO37 gO38 gO41 gO44 gO47 gO50 gO53 gO56 gO59 gO62 gO65 gO68 gO71 gO74 gO77 gO80 gO83 gO86 gO87 gO88 gO89 gO90 gO91 z0 z1 z2 z3 z4 z5 b1 h206 W206.old c207 c208 gz1 z6 z8 z11 VgO3 z10 z12 VgO37 z13 z14 z15 z16 z17 z18 VgO86 VgO87 XgO7 XgO1 z19 z20 z21 z22 VgO89 z23 z24 XgO90 z25 VgO91 z26 z7 z9) 0 29 93 (by decide) (by rw [hml]; rfl) (lenOf pd6 rfl) [] rfl rfl 194 (hb hy at_191) rfl rfl rfl (allS ⟨gz1, (Or.inr gb1)⟩ all0) tri ?_
          intro v209 T209 h209 lo209 W209 K209 q209
          obtain ⟨r1_209, P209_0, P209_1, P209_2, P209_3, P209_4, rfl⟩ := q209.2.2
          show Gl _ _ _ _ _ _ _ _ [(.ref r1_209)]
          refine o_iloadN W209 195 (hb hy at_194) rfl rfl ?_
          refine o_staticC W209 (w44 hw) (w45 hw) (w46 hw) (w47 hw) (by decide) (rm80 l hw r1_209 h209 W209.old P209_2 P209_3 P209_4) 0 29 93 (by decide) (by rw [hml]; rfl) (lenOf pd10 rfl) [] rfl rfl 198 (hb hy at_195) rfl rfl rfl all0 tri ?_
          intro v210 T210 h210 lo210 W210 K210 q210
          obtain rfl := q210.2.2
          show Gl _ _ _ _ _ _ _ _ [(.int 1)]
          refine o_ifN W210 201 (hb hy at_198) (XT.i0_eq_f (by decide)) rfl <| o_iconst W210 (v := 1) 202 (hb hy at_201) rfl rfl <| o_goto W210 206 (hb hy at_202) (by decide) rfl <| o_istoreN W210 (L' := #[vi p0, vr b1, vi 1, vi 2]) 207 (hb hy at_206) rfl rfl <| o_iloadN W210 208 (hb hy at_207) rfl rfl ?_
          exact o_retN W210 hlk (t := .boolean) hret (by simp) (z' := (1 : Int32)) (by decide) (hb hy at_208) (by decide) (by decide) rfl
      · refine o_ifN W186 113 (hb hy at_110) (XT.i0_eq_f hq187) rfl <| o_aloadN W186 114 (hb hy at_113) rfl rfl rfl ?_
        have c211 := (P185_0.keep K186 nin0)
        have c212 := ((c184.keep K185).keep K186)
        refine o_virtualC W186 (w346 hw) (w347 hw) (o_nf W186 rfl (w349 hw)) (w349 hw) (w348 hw) (by decide) c212 (w350 hw) (w2 hw) (rm161 l hw b1 h186 W186.old c212 c211 gz1) 0 1 1 (by decide) (by rw [hml]; rfl) (lenOf pd0 rfl) [] rfl rfl 117 (hb hy at_114) rfl rfl rfl (allS ⟨gz1, (Or.inr gb1)⟩ all0) tri ?_
        intro v213 T213 h213 lo213 W213 K213 q213
        obtain ⟨P213_0, rfl⟩ := q213.2.2
        show Gl _ _ _ _ _ _ _ _ []
        refine o_iconst W213 (v := 0) 118 (hb hy at_117) rfl rfl <| o_istoreN W213 (L' := #[vi p0, vr b1, vi 1, vi 0]) 119 (hb hy at_118) rfl rfl <| o_iloadN W213 120 (hb hy at_119) rfl rfl <| o_iconst W213 (v := 1) 121 (hb hy at_120) rfl rfl <| o_iadd W213 (v := 1) 122 (hb hy at_121) (by decide) rfl <| o_istoreN W213 (L' := #[vi p0, vr b1, vi 1, vi 1]) 123 (hb hy at_122) rfl rfl ?_
        refine o_iloadN W213 124 (hb hy at_123) rfl rfl <| o_ifN W213 127 (hb hy at_124) (XT.i0_eq_f (by decide)) rfl <| o_aloadN W213 128 (hb hy at_127) rfl rfl rfl ?_
        have c214 := (c212.keep K213)
        refine o_virtualC W213 (w9 hw) (w10 hw) (o_nf W213 rfl (w12 hw)) (w12 hw) (w11 hw) (by decide) c214 (w13 hw) (w2 hw) (rm7 l hw gO1 gO2 b1 h213 W213.old P213_0 c214 gz1 z6 XgO1 z7 z8 z9) 0 1 1 (by decide) (by rw [hml]; rfl) (lenOf pd6 rfl) [] rfl rfl 131 (hb hy at_128) rfl rfl rfl (allS ⟨gz1, (Or.inr gb1)⟩ all0) tri ?_
        intro v215 T215 h215 lo215 W215 K215 q215
        obtain ⟨P215_0, rfl⟩ := q215.2.2
        show Gl _ _ _ _ _ _ _ _ [(.ref gO1)]
        refine o_iloadN W215 132 (hb hy at_131) rfl rfl ?_
        refine o_staticC W215 (w44 hw) (w45 hw) (w46 hw) (w47 hw) (by decide) (rm11 l hw gO1 h215 W215.old z8 XgO1 z10) 0 1 1 (by decide) (by rw [hml]; rfl) (lenOf pd10 rfl) [] rfl rfl 135 (hb hy at_132) rfl rfl rfl all0 tri ?_
        intro v216 T216 h216 lo216 W216 K216 q216
        obtain rfl := q216.2.2
        show Gl _ _ _ _ _ _ _ _ [(.int 1)]
        refine o_ifN W216 138 (hb hy at_135) (XT.i0_eq_f (by decide)) rfl <| o_iconst W216 (v := 1) 139 (hb hy at_138) rfl rfl <| o_goto W216 143 (hb hy at_139) (by decide) rfl <| o_istoreN W216 (L' := #[vi p0, vr b1, vi 1, vi 1]) 144 (hb hy at_143) rfl rfl <| o_iloadN W216 145 (hb hy at_144) rfl rfl <| o_bipush W216 (v := 8) 147 (hb hy at_145) (by decide) rfl ?_
        refine o_iand W216 (v := (p0 &&& 8)) 148 (hb hy at_147) rfl rfl ?_
        by_cases hq217 : (p0 &&& 8) = (0 : Int32)
        · refine o_ifY W216 157 (hb hy at_148) (XT.i0_eq_t hq217) (by decide) rfl <| o_iloadN W216 158 (hb hy at_157) rfl rfl <| o_iconst W216 (v := 1) 159 (hb hy at_158) rfl rfl <| o_iadd W216 (v := 2) 160 (hb hy at_159) (by decide) rfl <| o_istoreN W216 (L' := #[vi p0, vr b1, vi 1, vi 2]) 161 (hb hy at_160) rfl rfl <| o_iloadN W216 162 (hb hy at_161) rfl rfl ?_
          refine o_ifN W216 165 (hb hy at_162) (XT.i0_eq_f (by decide)) rfl <| o_aloadN W216 166 (hb hy at_165) rfl rfl rfl ?_
          have c218 := (P215_0.keep K216 nin0)
          have c219 := ((c214.keep K215).keep K216)
          refine o_virtualC W216 (w9 hw) (w10 hw) (o_nf W216 rfl (w12 hw)) (w12 hw) (w11 hw) (by decide) c219 (w13 hw) (w2 hw) (rm76 l hw gO1 gO2 gO3 gO4 gO7 gO10 gO13 gO16 gO19 gO22 gO25 gO28 gO31 gO34 gO37 gO38 gO41 gO44 gO47 gO50 gO53 gO56 gO59 gO62 gO65 gO68 gO71 gO74 gO77 gO80 gO83 gO86 gO87 gO88 gO89 gO90 gO91 z0 z1 z2 z3 z4 z5 b1 h216 W216.old c218 c219 gz1 z6 z8 z11 VgO3 z10 z12 VgO37 z13 z14 z15 z16 z17 z18 VgO86 VgO87 XgO7 XgO1 z19 z20 z21 z22 VgO89 z23 z24 XgO90 z25 VgO91 z26 z7 z9) 0 15 47 (by decide) (by rw [hml]; rfl) (lenOf pd6 rfl) [] rfl rfl 169 (hb hy at_166) rfl rfl rfl (allS ⟨gz1, (Or.inr gb1)⟩ all0) tri ?_
          intro v220 T220 h220 lo220 W220 K220 q220
          obtain ⟨r1_220, P220_0, P220_1, P220_2, P220_3, P220_4, rfl⟩ := q220.2.2
          show Gl _ _ _ _ _ _ _ _ [(.ref r1_220)]
          refine o_iloadN W220 170 (hb hy at_169) rfl rfl ?_
          refine o_staticC W220 (w44 hw) (w45 hw) (w46 hw) (w47 hw) (by decide) (rm80 l hw r1_220 h220 W220.old P220_2 P220_3 P220_4) 0 15 47 (by decide) (by rw [hml]; rfl) (lenOf pd10 rfl) [] rfl rfl 173 (hb hy at_170) rfl rfl rfl all0 tri ?_
          intro v221 T221 h221 lo221 W221 K221 q221
          obtain rfl := q221.2.2
          show Gl _ _ _ _ _ _ _ _ [(.int 1)]
          refine o_ifN W221 176 (hb hy at_173) (XT.i0_eq_f (by decide)) rfl <| o_iconst W221 (v := 1) 177 (hb hy at_176) rfl rfl <| o_goto W221 181 (hb hy at_177) (by decide) rfl <| o_istoreN W221 (L' := #[vi p0, vr b1, vi 1, vi 2]) 182 (hb hy at_181) rfl rfl <| o_iloadN W221 183 (hb hy at_182) rfl rfl <| o_iconst W221 (v := 1) 184 (hb hy at_183) rfl rfl ?_
          refine o_iadd W221 (v := 3) 185 (hb hy at_184) (by decide) rfl <| o_istoreN W221 (L' := #[vi p0, vr b1, vi 1, vi 3]) 186 (hb hy at_185) rfl rfl <| o_iloadN W221 187 (hb hy at_186) rfl rfl <| o_ifN W221 190 (hb hy at_187) (XT.i0_eq_f (by decide)) rfl <| o_aloadN W221 191 (hb hy at_190) rfl rfl rfl ?_
          have c222 := (P220_1.keep K221 nin0)
          have c223 := ((c219.keep K220).keep K221)
          refine o_virtualC W221 (w9 hw) (w10 hw) (o_nf W221 rfl (w12 hw)) (w12 hw) (w11 hw) (by decide) c223 (w13 hw) (w2 hw) (rm95 l hw gO1 gO2 gO3 gO4 gO7 gO10 gO13 gO16 gO19 gO22 gO25 gO28 gO31 gO34 gO37 gO38 gO41 gO44 gO47 gO50 gO53 gO56 gO59 gO62 gO65 gO68 gO71 gO74 gO77 gO80 gO83 gO86 gO87 gO88 gO89 gO90 gO91 z0 z1 z2 z3 z4 z5 b1 h221 W221.old c222 c223 gz1 z6 z8 z11 VgO3 z10 z12 VgO37 z13 z14 z15 z16 z17 z18 VgO86 VgO87 XgO7 XgO1 z27 z28 z21 z22 VgO89 z23 z24 XgO90 z25 VgO91 z26 z7 z9) 0 29 93 (by decide) (by rw [hml]; rfl) (lenOf pd6 rfl) [] rfl rfl 194 (hb hy at_191) rfl rfl rfl (allS ⟨gz1, (Or.inr gb1)⟩ all0) tri ?_
          intro v224 T224 h224 lo224 W224 K224 q224
          obtain ⟨r1_224, P224_0, P224_1, P224_2, P224_3, P224_4, rfl⟩ := q224.2.2
          show Gl _ _ _ _ _ _ _ _ [(.ref r1_224)]
          refine o_iloadN W224 195 (hb hy at_194) rfl rfl ?_
          refine o_staticC W224 (w44 hw) (w45 hw) (w46 hw) (w47 hw) (by decide) (rm98 l hw r1_224 h224 W224.old P224_2 P224_3 P224_4) 0 29 93 (by decide) (by rw [hml]; rfl) (lenOf pd10 rfl) [] rfl rfl 198 (hb hy at_195) rfl rfl rfl all0 tri ?_
          intro v225 T225 h225 lo225 W225 K225 q225
          obtain rfl := q225.2.2
          show Gl _ _ _ _ _ _ _ _ [(.int 1)]
          refine o_ifN W225 201 (hb hy at_198) (XT.i0_eq_f (by decide)) rfl <| o_iconst W225 (v := 1) 202 (hb hy at_201) rfl rfl <| o_goto W225 206 (hb hy at_202) (by decide) rfl <| o_istoreN W225 (L' := #[vi p0, vr b1, vi 1, vi 3]) 207 (hb hy at_206) rfl rfl <| o_iloadN W225 208 (hb hy at_207) rfl rfl ?_
          exact o_retN W225 hlk (t := .boolean) hret (by simp) (z' := (1 : Int32)) (by decide) (hb hy at_208) (by decide) (by decide) rfl
        · refine o_ifN W216 151 (hb hy at_148) (XT.i0_eq_f hq217) rfl <| o_aloadN W216 152 (hb hy at_151) rfl rfl rfl ?_
          have c226 := (P215_0.keep K216 nin0)
          have c227 := ((c214.keep K215).keep K216)
          refine o_virtualC W216 (w346 hw) (w347 hw) (o_nf W216 rfl (w349 hw)) (w349 hw) (w348 hw) (by decide) c227 (w350 hw) (w2 hw) (rm161 l hw b1 h216 W216.old c227 c226 gz1) 0 1 1 (by decide) (by rw [hml]; rfl) (lenOf pd0 rfl) [] rfl rfl 155 (hb hy at_152) rfl rfl rfl (allS ⟨gz1, (Or.inr gb1)⟩ all0) tri ?_
          intro v228 T228 h228 lo228 W228 K228 q228
          obtain ⟨P228_0, rfl⟩ := q228.2.2
          show Gl _ _ _ _ _ _ _ _ []
          refine o_iconst W228 (v := 0) 156 (hb hy at_155) rfl rfl <| o_istoreN W228 (L' := #[vi p0, vr b1, vi 1, vi 0]) 157 (hb hy at_156) rfl rfl <| o_iloadN W228 158 (hb hy at_157) rfl rfl <| o_iconst W228 (v := 1) 159 (hb hy at_158) rfl rfl <| o_iadd W228 (v := 1) 160 (hb hy at_159) (by decide) rfl <| o_istoreN W228 (L' := #[vi p0, vr b1, vi 1, vi 1]) 161 (hb hy at_160) rfl rfl ?_
          refine o_iloadN W228 162 (hb hy at_161) rfl rfl <| o_ifN W228 165 (hb hy at_162) (XT.i0_eq_f (by decide)) rfl <| o_aloadN W228 166 (hb hy at_165) rfl rfl rfl ?_
          have c229 := (c227.keep K228)
          refine o_virtualC W228 (w9 hw) (w10 hw) (o_nf W228 rfl (w12 hw)) (w12 hw) (w11 hw) (by decide) c229 (w13 hw) (w2 hw) (rm7 l hw gO1 gO2 b1 h228 W228.old P228_0 c229 gz1 z6 XgO1 z7 z8 z9) 0 1 1 (by decide) (by rw [hml]; rfl) (lenOf pd6 rfl) [] rfl rfl 169 (hb hy at_166) rfl rfl rfl (allS ⟨gz1, (Or.inr gb1)⟩ all0) tri ?_
          intro v230 T230 h230 lo230 W230 K230 q230
          obtain ⟨P230_0, rfl⟩ := q230.2.2
          show Gl _ _ _ _ _ _ _ _ [(.ref gO1)]
          refine o_iloadN W230 170 (hb hy at_169) rfl rfl ?_
          refine o_staticC W230 (w44 hw) (w45 hw) (w46 hw) (w47 hw) (by decide) (rm11 l hw gO1 h230 W230.old z8 XgO1 z10) 0 1 1 (by decide) (by rw [hml]; rfl) (lenOf pd10 rfl) [] rfl rfl 173 (hb hy at_170) rfl rfl rfl all0 tri ?_
          intro v231 T231 h231 lo231 W231 K231 q231
          obtain rfl := q231.2.2
          show Gl _ _ _ _ _ _ _ _ [(.int 1)]
          refine o_ifN W231 176 (hb hy at_173) (XT.i0_eq_f (by decide)) rfl <| o_iconst W231 (v := 1) 177 (hb hy at_176) rfl rfl <| o_goto W231 181 (hb hy at_177) (by decide) rfl <| o_istoreN W231 (L' := #[vi p0, vr b1, vi 1, vi 1]) 182 (hb hy at_181) rfl rfl <| o_iloadN W231 183 (hb hy at_182) rfl rfl <| o_iconst W231 (v := 1) 184 (hb hy at_183) rfl rfl ?_
          refine o_iadd W231 (v := 2) 185 (hb hy at_184) (by decide) rfl <| o_istoreN W231 (L' := #[vi p0, vr b1, vi 1, vi 2]) 186 (hb hy at_185) rfl rfl <| o_iloadN W231 187 (hb hy at_186) rfl rfl <| o_ifN W231 190 (hb hy at_187) (XT.i0_eq_f (by decide)) rfl <| o_aloadN W231 191 (hb hy at_190) rfl rfl rfl ?_
          have c232 := (P230_0.keep K231 nin0)
          have c233 := ((c229.keep K230).keep K231)
          refine o_virtualC W231 (w9 hw) (w10 hw) (o_nf W231 rfl (w12 hw)) (w12 hw) (w11 hw) (by decide) c233 (w13 hw) (w2 hw) (rm76 l hw gO1 gO2 gO3 gO4 gO7 gO10 gO13 gO16 gO19 gO22 gO25 gO28 gO31 gO34 gO37 gO38 gO41 gO44 gO47 gO50 gO53 gO56 gO59 gO62 gO65 gO68 gO71 gO74 gO77 gO80 gO83 gO86 gO87 gO88 gO89 gO90 gO91 z0 z1 z2 z3 z4 z5 b1 h231 W231.old c232 c233 gz1 z6 z8 z11 VgO3 z10 z12 VgO37 z13 z14 z15 z16 z17 z18 VgO86 VgO87 XgO7 XgO1 z19 z20 z21 z22 VgO89 z23 z24 XgO90 z25 VgO91 z26 z7 z9) 0 15 47 (by decide) (by rw [hml]; rfl) (lenOf pd6 rfl) [] rfl rfl 194 (hb hy at_191) rfl rfl rfl (allS ⟨gz1, (Or.inr gb1)⟩ all0) tri ?_
          intro v234 T234 h234 lo234 W234 K234 q234
          obtain ⟨r1_234, P234_0, P234_1, P234_2, P234_3, P234_4, rfl⟩ := q234.2.2
          show Gl _ _ _ _ _ _ _ _ [(.ref r1_234)]
          refine o_iloadN W234 195 (hb hy at_194) rfl rfl ?_
          refine o_staticC W234 (w44 hw) (w45 hw) (w46 hw) (w47 hw) (by decide) (rm80 l hw r1_234 h234 W234.old P234_2 P234_3 P234_4) 0 15 47 (by decide) (by rw [hml]; rfl) (lenOf pd10 rfl) [] rfl rfl 198 (hb hy at_195) rfl rfl rfl all0 tri ?_
          intro v235 T235 h235 lo235 W235 K235 q235
          obtain rfl := q235.2.2
          show Gl _ _ _ _ _ _ _ _ [(.int 1)]
          refine o_ifN W235 201 (hb hy at_198) (XT.i0_eq_f (by decide)) rfl <| o_iconst W235 (v := 1) 202 (hb hy at_201) rfl rfl <| o_goto W235 206 (hb hy at_202) (by decide) rfl <| o_istoreN W235 (L' := #[vi p0, vr b1, vi 1, vi 2]) 207 (hb hy at_206) rfl rfl <| o_iloadN W235 208 (hb hy at_207) rfl rfl ?_
          exact o_retN W235 hlk (t := .boolean) hret (by simp) (z' := (1 : Int32)) (by decide) (hb hy at_208) (by decide) (by decide) rfl
theorem comes_1 {Post : Tables → Env → Array Value → State → Outcome → State → Prop} (hpost : ∀ tb e args s v u, (limb_1_1.after args s (.returned v) u = true ∧ limb_1_2.after args s (.returned v) u = true ∧ True) → FrameEnd s (.returned v) u (Jvm.fieldLocs frame_1_writes args s ++ Jvm.arrayLocs frame_1_arrays args s ++ Jvm.staticLocs frame_1_statics s) 168 576 → Post tb e args s (.returned v) u) :
    ArmFor flags0 classFile x code maxLocals ret World_1 tables_1 room_1 Calls_1 rest_1 Pre_1 Post := by
  intro l hfl _ _ p e ha hc hk s m args below hf hA hF happ hP
  obtain ⟨hcalls, hrest, hpre⟩ := hP
  obtain ⟨-, -, -, hnamed, -, -, -, hat⟩ := (Spec.applies_iff hf).mp happ
  obtain ⟨hg, hn⟩ := and_e (Cond.before_iff.mp (show (Jvm.Cond.and given_1 narrow_1).before args s = true from hpre))
  obtain ⟨g1, g2⟩ := and_e hg
  obtain ⟨w0, rfl⟩ : ∃ w0 : Value, args = #[w0] := by
    have hs : args.size = 1 := by simpa [Cond.value, given_1] using g1
    obtain ⟨L⟩ := args
    match L, hs with
    | [w0], _ => exact ⟨w0, rfl⟩
  obtain ⟨i0, ei0⟩ := is_v g2
  obtain rfl : w0 = (.int i0) := Option.some.inj ei0
  have hw := fun d (hd : d ∈ tables_1) => atoms_spec (ws := Jvm.Cond.code x code maxLocals ret :: tables_1) hat d (List.mem_cons_of_mem _ hd)
  have hfit : Fit s := fun {y c} hc i hi => by
    obtain ⟨ha, rfl⟩ := Array.getElem?_eq_some_iff.mp hc
    have q := List.all_eq_true.mp ((Array.all_eq_true_iff_forall_mem.mp hF) _ (Array.getElem_mem ha)) i (List.mem_range.mpr hi)
    simpa [Array.getElem?_eq_getElem hi] using q
  obtain ⟨hsets, hown0⟩ := atoms_of _ (rest_1_c_eq ▸ (show rest_1_c.before _ s = true from hrest))
  obtain ⟨nn0, hn0⟩ := and_e hn
  obtain ⟨nn1, hn1⟩ := and_e hn0
  obtain ⟨nn2, hn2⟩ := and_e hn1
  obtain ⟨nn3, hn3⟩ := and_e hn2
  obtain ⟨nn4, hn4⟩ := and_e hn3
  obtain ⟨gO1, evgO1⟩ := exa_v nn0
  have SgO1_FIRST := Sta.start evgO1 (Or.inr ⟨(w2 hw), (w20 hw)⟩)
  have XgO1 := Exa.start evgO1 nn0
  obtain ⟨gO2, evgO2⟩ := exa_v nn1
  have SgO2_MAX := Sta.start evgO2 (Or.inr ⟨(w2 hw), (w32 hw)⟩)
  have XgO2 := Exa.start evgO2 nn1
  have FgO1_seconds := own_fJ evgO1 nn2
  have FgO2_seconds := own_fJ evgO2 nn3
  have FgO1_nanos := own_fI evgO1 nn4
  have FgO2_nanos := own_fI evgO2 hn4
  obtain ⟨gO3, evgO3⟩ := arr_v (Cond.before_iff.mp (hsets _ (List.mem_of_getElem? (i := 18) rfl)))
  have SgO3_ZERO_THROUGH_TEN := Sta.start evgO3 (Or.inl (hsets _ (List.mem_of_getElem? (i := 1) rfl)))
  have XgO3 := Exa.start evgO3 (Cond.before_iff.mp (hsets _ (List.mem_of_getElem? (i := 19) rfl)))
  obtain ⟨gO4, evgO4⟩ := exa_v (Cond.before_iff.mp (hsets _ (List.mem_of_getElem? (i := 22) rfl)))
  have XgO4 := Exa.start evgO4 (Cond.before_iff.mp (hsets _ (List.mem_of_getElem? (i := 22) rfl)))
  have FgO4_scale := own_fI evgO4 (Cond.before_iff.mp (hsets _ (List.mem_of_getElem? (i := 23) rfl)))
  have FgO4_intCompact := own_fJ evgO4 (Cond.before_iff.mp (hsets _ (List.mem_of_getElem? (i := 24) rfl)))
  obtain ⟨gO5, evgO5⟩ := exa_v (Cond.before_iff.mp (hsets _ (List.mem_of_getElem? (i := 26) rfl)))
  have FgO4_intVal := Fld.start ((fld_at evgO4).symm.trans evgO5)
  have XgO5 := Exa.start evgO5 (Cond.before_iff.mp (hsets _ (List.mem_of_getElem? (i := 26) rfl)))
  have FgO5_signum := own_fI evgO5 (Cond.before_iff.mp (hsets _ (List.mem_of_getElem? (i := 27) rfl)))
  obtain ⟨gO6, evgO6⟩ := arr_v (Cond.before_iff.mp (hsets _ (List.mem_of_getElem? (i := 28) rfl)))
  have FgO5_mag := Fld.start ((fld_at evgO5).symm.trans evgO6)
  have XgO6 := Exa.start evgO6 (Cond.before_iff.mp (hsets _ (List.mem_of_getElem? (i := 29) rfl)))
  obtain ⟨gO7, evgO7⟩ := exa_v (Cond.before_iff.mp (hsets _ (List.mem_of_getElem? (i := 32) rfl)))
  have XgO7 := Exa.start evgO7 (Cond.before_iff.mp (hsets _ (List.mem_of_getElem? (i := 32) rfl)))
  have FgO7_scale := own_fI evgO7 (Cond.before_iff.mp (hsets _ (List.mem_of_getElem? (i := 33) rfl)))
  have FgO7_intCompact := own_fJ evgO7 (Cond.before_iff.mp (hsets _ (List.mem_of_getElem? (i := 34) rfl)))
  obtain ⟨gO8, evgO8⟩ := exa_v (Cond.before_iff.mp (hsets _ (List.mem_of_getElem? (i := 36) rfl)))
  have FgO7_intVal := Fld.start ((fld_at evgO7).symm.trans evgO8)
  have XgO8 := Exa.start evgO8 (Cond.before_iff.mp (hsets _ (List.mem_of_getElem? (i := 36) rfl)))
  have FgO8_signum := own_fI evgO8 (Cond.before_iff.mp (hsets _ (List.mem_of_getElem? (i := 37) rfl)))
  obtain ⟨gO9, evgO9⟩ := arr_v (Cond.before_iff.mp (hsets _ (List.mem_of_getElem? (i := 38) rfl)))
  have FgO8_mag := Fld.start ((fld_at evgO8).symm.trans evgO9)
  have XgO9 := Exa.start evgO9 (Cond.before_iff.mp (hsets _ (List.mem_of_getElem? (i := 39) rfl)))
  obtain ⟨gO10, evgO10⟩ := exa_v (Cond.before_iff.mp (hsets _ (List.mem_of_getElem? (i := 42) rfl)))
  have XgO10 := Exa.start evgO10 (Cond.before_iff.mp (hsets _ (List.mem_of_getElem? (i := 42) rfl)))
  have FgO10_scale := own_fI evgO10 (Cond.before_iff.mp (hsets _ (List.mem_of_getElem? (i := 43) rfl)))
  have FgO10_intCompact := own_fJ evgO10 (Cond.before_iff.mp (hsets _ (List.mem_of_getElem? (i := 44) rfl)))
  obtain ⟨gO11, evgO11⟩ := exa_v (Cond.before_iff.mp (hsets _ (List.mem_of_getElem? (i := 46) rfl)))
  have FgO10_intVal := Fld.start ((fld_at evgO10).symm.trans evgO11)
  have XgO11 := Exa.start evgO11 (Cond.before_iff.mp (hsets _ (List.mem_of_getElem? (i := 46) rfl)))
  have FgO11_signum := own_fI evgO11 (Cond.before_iff.mp (hsets _ (List.mem_of_getElem? (i := 47) rfl)))
  obtain ⟨gO12, evgO12⟩ := arr_v (Cond.before_iff.mp (hsets _ (List.mem_of_getElem? (i := 48) rfl)))
  have FgO11_mag := Fld.start ((fld_at evgO11).symm.trans evgO12)
  have XgO12 := Exa.start evgO12 (Cond.before_iff.mp (hsets _ (List.mem_of_getElem? (i := 49) rfl)))
  obtain ⟨gO13, evgO13⟩ := exa_v (Cond.before_iff.mp (hsets _ (List.mem_of_getElem? (i := 51) rfl)))
  have XgO13 := Exa.start evgO13 (Cond.before_iff.mp (hsets _ (List.mem_of_getElem? (i := 51) rfl)))
  have FgO13_scale := own_fI evgO13 (Cond.before_iff.mp (hsets _ (List.mem_of_getElem? (i := 52) rfl)))
  have FgO13_intCompact := own_fJ evgO13 (Cond.before_iff.mp (hsets _ (List.mem_of_getElem? (i := 53) rfl)))
  obtain ⟨gO14, evgO14⟩ := exa_v (Cond.before_iff.mp (hsets _ (List.mem_of_getElem? (i := 54) rfl)))
  have FgO13_intVal := Fld.start ((fld_at evgO13).symm.trans evgO14)
  have XgO14 := Exa.start evgO14 (Cond.before_iff.mp (hsets _ (List.mem_of_getElem? (i := 54) rfl)))
  have FgO14_signum := own_fI evgO14 (Cond.before_iff.mp (hsets _ (List.mem_of_getElem? (i := 55) rfl)))
  obtain ⟨gO15, evgO15⟩ := arr_v (Cond.before_iff.mp (hsets _ (List.mem_of_getElem? (i := 56) rfl)))
  have FgO14_mag := Fld.start ((fld_at evgO14).symm.trans evgO15)
  have XgO15 := Exa.start evgO15 (Cond.before_iff.mp (hsets _ (List.mem_of_getElem? (i := 57) rfl)))
  obtain ⟨gO16, evgO16⟩ := exa_v (Cond.before_iff.mp (hsets _ (List.mem_of_getElem? (i := 59) rfl)))
  have XgO16 := Exa.start evgO16 (Cond.before_iff.mp (hsets _ (List.mem_of_getElem? (i := 59) rfl)))
  have FgO16_scale := own_fI evgO16 (Cond.before_iff.mp (hsets _ (List.mem_of_getElem? (i := 60) rfl)))
  have FgO16_intCompact := own_fJ evgO16 (Cond.before_iff.mp (hsets _ (List.mem_of_getElem? (i := 61) rfl)))
  obtain ⟨gO17, evgO17⟩ := exa_v (Cond.before_iff.mp (hsets _ (List.mem_of_getElem? (i := 62) rfl)))
  have FgO16_intVal := Fld.start ((fld_at evgO16).symm.trans evgO17)
  have XgO17 := Exa.start evgO17 (Cond.before_iff.mp (hsets _ (List.mem_of_getElem? (i := 62) rfl)))
  have FgO17_signum := own_fI evgO17 (Cond.before_iff.mp (hsets _ (List.mem_of_getElem? (i := 63) rfl)))
  obtain ⟨gO18, evgO18⟩ := arr_v (Cond.before_iff.mp (hsets _ (List.mem_of_getElem? (i := 64) rfl)))
  have FgO17_mag := Fld.start ((fld_at evgO17).symm.trans evgO18)
  have XgO18 := Exa.start evgO18 (Cond.before_iff.mp (hsets _ (List.mem_of_getElem? (i := 65) rfl)))
  obtain ⟨gO19, evgO19⟩ := exa_v (Cond.before_iff.mp (hsets _ (List.mem_of_getElem? (i := 67) rfl)))
  have XgO19 := Exa.start evgO19 (Cond.before_iff.mp (hsets _ (List.mem_of_getElem? (i := 67) rfl)))
  have FgO19_scale := own_fI evgO19 (Cond.before_iff.mp (hsets _ (List.mem_of_getElem? (i := 68) rfl)))
  have FgO19_intCompact := own_fJ evgO19 (Cond.before_iff.mp (hsets _ (List.mem_of_getElem? (i := 69) rfl)))
  obtain ⟨gO20, evgO20⟩ := exa_v (Cond.before_iff.mp (hsets _ (List.mem_of_getElem? (i := 70) rfl)))
  have FgO19_intVal := Fld.start ((fld_at evgO19).symm.trans evgO20)
  have XgO20 := Exa.start evgO20 (Cond.before_iff.mp (hsets _ (List.mem_of_getElem? (i := 70) rfl)))
  have FgO20_signum := own_fI evgO20 (Cond.before_iff.mp (hsets _ (List.mem_of_getElem? (i := 71) rfl)))
  obtain ⟨gO21, evgO21⟩ := arr_v (Cond.before_iff.mp (hsets _ (List.mem_of_getElem? (i := 72) rfl)))
  have FgO20_mag := Fld.start ((fld_at evgO20).symm.trans evgO21)
  have XgO21 := Exa.start evgO21 (Cond.before_iff.mp (hsets _ (List.mem_of_getElem? (i := 73) rfl)))
  obtain ⟨gO22, evgO22⟩ := exa_v (Cond.before_iff.mp (hsets _ (List.mem_of_getElem? (i := 75) rfl)))
  have XgO22 := Exa.start evgO22 (Cond.before_iff.mp (hsets _ (List.mem_of_getElem? (i := 75) rfl)))
  have FgO22_scale := own_fI evgO22 (Cond.before_iff.mp (hsets _ (List.mem_of_getElem? (i := 76) rfl)))
  have FgO22_intCompact := own_fJ evgO22 (Cond.before_iff.mp (hsets _ (List.mem_of_getElem? (i := 77) rfl)))
  obtain ⟨gO23, evgO23⟩ := exa_v (Cond.before_iff.mp (hsets _ (List.mem_of_getElem? (i := 78) rfl)))
  have FgO22_intVal := Fld.start ((fld_at evgO22).symm.trans evgO23)
  have XgO23 := Exa.start evgO23 (Cond.before_iff.mp (hsets _ (List.mem_of_getElem? (i := 78) rfl)))
  have FgO23_signum := own_fI evgO23 (Cond.before_iff.mp (hsets _ (List.mem_of_getElem? (i := 79) rfl)))
  obtain ⟨gO24, evgO24⟩ := arr_v (Cond.before_iff.mp (hsets _ (List.mem_of_getElem? (i := 80) rfl)))
  have FgO23_mag := Fld.start ((fld_at evgO23).symm.trans evgO24)
  have XgO24 := Exa.start evgO24 (Cond.before_iff.mp (hsets _ (List.mem_of_getElem? (i := 81) rfl)))
  obtain ⟨gO25, evgO25⟩ := exa_v (Cond.before_iff.mp (hsets _ (List.mem_of_getElem? (i := 83) rfl)))
  have XgO25 := Exa.start evgO25 (Cond.before_iff.mp (hsets _ (List.mem_of_getElem? (i := 83) rfl)))
  have FgO25_scale := own_fI evgO25 (Cond.before_iff.mp (hsets _ (List.mem_of_getElem? (i := 84) rfl)))
  have FgO25_intCompact := own_fJ evgO25 (Cond.before_iff.mp (hsets _ (List.mem_of_getElem? (i := 85) rfl)))
  obtain ⟨gO26, evgO26⟩ := exa_v (Cond.before_iff.mp (hsets _ (List.mem_of_getElem? (i := 86) rfl)))
  have FgO25_intVal := Fld.start ((fld_at evgO25).symm.trans evgO26)
  have XgO26 := Exa.start evgO26 (Cond.before_iff.mp (hsets _ (List.mem_of_getElem? (i := 86) rfl)))
  have FgO26_signum := own_fI evgO26 (Cond.before_iff.mp (hsets _ (List.mem_of_getElem? (i := 87) rfl)))
  obtain ⟨gO27, evgO27⟩ := arr_v (Cond.before_iff.mp (hsets _ (List.mem_of_getElem? (i := 88) rfl)))
  have FgO26_mag := Fld.start ((fld_at evgO26).symm.trans evgO27)
  have XgO27 := Exa.start evgO27 (Cond.before_iff.mp (hsets _ (List.mem_of_getElem? (i := 89) rfl)))
  obtain ⟨gO28, evgO28⟩ := exa_v (Cond.before_iff.mp (hsets _ (List.mem_of_getElem? (i := 91) rfl)))
  have XgO28 := Exa.start evgO28 (Cond.before_iff.mp (hsets _ (List.mem_of_getElem? (i := 91) rfl)))
  have FgO28_scale := own_fI evgO28 (Cond.before_iff.mp (hsets _ (List.mem_of_getElem? (i := 92) rfl)))
  have FgO28_intCompact := own_fJ evgO28 (Cond.before_iff.mp (hsets _ (List.mem_of_getElem? (i := 93) rfl)))
  obtain ⟨gO29, evgO29⟩ := exa_v (Cond.before_iff.mp (hsets _ (List.mem_of_getElem? (i := 94) rfl)))
  have FgO28_intVal := Fld.start ((fld_at evgO28).symm.trans evgO29)
  have XgO29 := Exa.start evgO29 (Cond.before_iff.mp (hsets _ (List.mem_of_getElem? (i := 94) rfl)))
  have FgO29_signum := own_fI evgO29 (Cond.before_iff.mp (hsets _ (List.mem_of_getElem? (i := 95) rfl)))
  obtain ⟨gO30, evgO30⟩ := arr_v (Cond.before_iff.mp (hsets _ (List.mem_of_getElem? (i := 96) rfl)))
  have FgO29_mag := Fld.start ((fld_at evgO29).symm.trans evgO30)
  have XgO30 := Exa.start evgO30 (Cond.before_iff.mp (hsets _ (List.mem_of_getElem? (i := 97) rfl)))
  obtain ⟨gO31, evgO31⟩ := exa_v (Cond.before_iff.mp (hsets _ (List.mem_of_getElem? (i := 99) rfl)))
  have XgO31 := Exa.start evgO31 (Cond.before_iff.mp (hsets _ (List.mem_of_getElem? (i := 99) rfl)))
  have FgO31_scale := own_fI evgO31 (Cond.before_iff.mp (hsets _ (List.mem_of_getElem? (i := 100) rfl)))
  have FgO31_intCompact := own_fJ evgO31 (Cond.before_iff.mp (hsets _ (List.mem_of_getElem? (i := 101) rfl)))
  obtain ⟨gO32, evgO32⟩ := exa_v (Cond.before_iff.mp (hsets _ (List.mem_of_getElem? (i := 102) rfl)))
  have FgO31_intVal := Fld.start ((fld_at evgO31).symm.trans evgO32)
  have XgO32 := Exa.start evgO32 (Cond.before_iff.mp (hsets _ (List.mem_of_getElem? (i := 102) rfl)))
  have FgO32_signum := own_fI evgO32 (Cond.before_iff.mp (hsets _ (List.mem_of_getElem? (i := 103) rfl)))
  obtain ⟨gO33, evgO33⟩ := arr_v (Cond.before_iff.mp (hsets _ (List.mem_of_getElem? (i := 104) rfl)))
  have FgO32_mag := Fld.start ((fld_at evgO32).symm.trans evgO33)
  have XgO33 := Exa.start evgO33 (Cond.before_iff.mp (hsets _ (List.mem_of_getElem? (i := 105) rfl)))
  obtain ⟨gO34, evgO34⟩ := exa_v (Cond.before_iff.mp (hsets _ (List.mem_of_getElem? (i := 108) rfl)))
  have XgO34 := Exa.start evgO34 (Cond.before_iff.mp (hsets _ (List.mem_of_getElem? (i := 108) rfl)))
  have FgO34_scale := own_fI evgO34 (Cond.before_iff.mp (hsets _ (List.mem_of_getElem? (i := 109) rfl)))
  have FgO34_intCompact := own_fJ evgO34 (Cond.before_iff.mp (hsets _ (List.mem_of_getElem? (i := 110) rfl)))
  obtain ⟨gO35, evgO35⟩ := exa_v (Cond.before_iff.mp (hsets _ (List.mem_of_getElem? (i := 112) rfl)))
  have FgO34_intVal := Fld.start ((fld_at evgO34).symm.trans evgO35)
  have XgO35 := Exa.start evgO35 (Cond.before_iff.mp (hsets _ (List.mem_of_getElem? (i := 112) rfl)))
  have FgO35_signum := own_fI evgO35 (Cond.before_iff.mp (hsets _ (List.mem_of_getElem? (i := 113) rfl)))
  obtain ⟨gO36, evgO36⟩ := arr_v (Cond.before_iff.mp (hsets _ (List.mem_of_getElem? (i := 114) rfl)))
  have FgO35_mag := Fld.start ((fld_at evgO35).symm.trans evgO36)
  have XgO36 := Exa.start evgO36 (Cond.before_iff.mp (hsets _ (List.mem_of_getElem? (i := 115) rfl)))
  obtain ⟨gO37, evgO37⟩ := arr_v (Cond.before_iff.mp (hsets _ (List.mem_of_getElem? (i := 123) rfl)))
  have SgO37_ZERO_SCALED_BY := Sta.start evgO37 (Or.inl (hsets _ (List.mem_of_getElem? (i := 118) rfl)))
  have XgO37 := Exa.start evgO37 (Cond.before_iff.mp (hsets _ (List.mem_of_getElem? (i := 124) rfl)))
  obtain ⟨gO38, evgO38⟩ := exa_v (Cond.before_iff.mp (hsets _ (List.mem_of_getElem? (i := 127) rfl)))
  have XgO38 := Exa.start evgO38 (Cond.before_iff.mp (hsets _ (List.mem_of_getElem? (i := 127) rfl)))
  have FgO38_scale := own_fI evgO38 (Cond.before_iff.mp (hsets _ (List.mem_of_getElem? (i := 128) rfl)))
  have FgO38_intCompact := own_fJ evgO38 (Cond.before_iff.mp (hsets _ (List.mem_of_getElem? (i := 129) rfl)))
  obtain ⟨gO39, evgO39⟩ := exa_v (Cond.before_iff.mp (hsets _ (List.mem_of_getElem? (i := 131) rfl)))
  have FgO38_intVal := Fld.start ((fld_at evgO38).symm.trans evgO39)
  have XgO39 := Exa.start evgO39 (Cond.before_iff.mp (hsets _ (List.mem_of_getElem? (i := 131) rfl)))
  have FgO39_signum := own_fI evgO39 (Cond.before_iff.mp (hsets _ (List.mem_of_getElem? (i := 132) rfl)))
  obtain ⟨gO40, evgO40⟩ := arr_v (Cond.before_iff.mp (hsets _ (List.mem_of_getElem? (i := 133) rfl)))
  have FgO39_mag := Fld.start ((fld_at evgO39).symm.trans evgO40)
  have XgO40 := Exa.start evgO40 (Cond.before_iff.mp (hsets _ (List.mem_of_getElem? (i := 134) rfl)))
  obtain ⟨gO41, evgO41⟩ := exa_v (Cond.before_iff.mp (hsets _ (List.mem_of_getElem? (i := 136) rfl)))
  have XgO41 := Exa.start evgO41 (Cond.before_iff.mp (hsets _ (List.mem_of_getElem? (i := 136) rfl)))
  have FgO41_scale := own_fI evgO41 (Cond.before_iff.mp (hsets _ (List.mem_of_getElem? (i := 137) rfl)))
  have FgO41_intCompact := own_fJ evgO41 (Cond.before_iff.mp (hsets _ (List.mem_of_getElem? (i := 138) rfl)))
  obtain ⟨gO42, evgO42⟩ := exa_v (Cond.before_iff.mp (hsets _ (List.mem_of_getElem? (i := 140) rfl)))
  have FgO41_intVal := Fld.start ((fld_at evgO41).symm.trans evgO42)
  have XgO42 := Exa.start evgO42 (Cond.before_iff.mp (hsets _ (List.mem_of_getElem? (i := 140) rfl)))
  have FgO42_signum := own_fI evgO42 (Cond.before_iff.mp (hsets _ (List.mem_of_getElem? (i := 141) rfl)))
  obtain ⟨gO43, evgO43⟩ := arr_v (Cond.before_iff.mp (hsets _ (List.mem_of_getElem? (i := 142) rfl)))
  have FgO42_mag := Fld.start ((fld_at evgO42).symm.trans evgO43)
  have XgO43 := Exa.start evgO43 (Cond.before_iff.mp (hsets _ (List.mem_of_getElem? (i := 143) rfl)))
  obtain ⟨gO44, evgO44⟩ := exa_v (Cond.before_iff.mp (hsets _ (List.mem_of_getElem? (i := 145) rfl)))
  have XgO44 := Exa.start evgO44 (Cond.before_iff.mp (hsets _ (List.mem_of_getElem? (i := 145) rfl)))
  have FgO44_scale := own_fI evgO44 (Cond.before_iff.mp (hsets _ (List.mem_of_getElem? (i := 146) rfl)))
  have FgO44_intCompact := own_fJ evgO44 (Cond.before_iff.mp (hsets _ (List.mem_of_getElem? (i := 147) rfl)))
  obtain ⟨gO45, evgO45⟩ := exa_v (Cond.before_iff.mp (hsets _ (List.mem_of_getElem? (i := 149) rfl)))
  have FgO44_intVal := Fld.start ((fld_at evgO44).symm.trans evgO45)
  have XgO45 := Exa.start evgO45 (Cond.before_iff.mp (hsets _ (List.mem_of_getElem? (i := 149) rfl)))
  have FgO45_signum := own_fI evgO45 (Cond.before_iff.mp (hsets _ (List.mem_of_getElem? (i := 150) rfl)))
  obtain ⟨gO46, evgO46⟩ := arr_v (Cond.before_iff.mp (hsets _ (List.mem_of_getElem? (i := 151) rfl)))
  have FgO45_mag := Fld.start ((fld_at evgO45).symm.trans evgO46)
  have XgO46 := Exa.start evgO46 (Cond.before_iff.mp (hsets _ (List.mem_of_getElem? (i := 152) rfl)))
  obtain ⟨gO47, evgO47⟩ := exa_v (Cond.before_iff.mp (hsets _ (List.mem_of_getElem? (i := 154) rfl)))
  have XgO47 := Exa.start evgO47 (Cond.before_iff.mp (hsets _ (List.mem_of_getElem? (i := 154) rfl)))
  have FgO47_scale := own_fI evgO47 (Cond.before_iff.mp (hsets _ (List.mem_of_getElem? (i := 155) rfl)))
  have FgO47_intCompact := own_fJ evgO47 (Cond.before_iff.mp (hsets _ (List.mem_of_getElem? (i := 156) rfl)))
  obtain ⟨gO48, evgO48⟩ := exa_v (Cond.before_iff.mp (hsets _ (List.mem_of_getElem? (i := 158) rfl)))
  have FgO47_intVal := Fld.start ((fld_at evgO47).symm.trans evgO48)
  have XgO48 := Exa.start evgO48 (Cond.before_iff.mp (hsets _ (List.mem_of_getElem? (i := 158) rfl)))
  have FgO48_signum := own_fI evgO48 (Cond.before_iff.mp (hsets _ (List.mem_of_getElem? (i := 159) rfl)))
  obtain ⟨gO49, evgO49⟩ := arr_v (Cond.before_iff.mp (hsets _ (List.mem_of_getElem? (i := 160) rfl)))
  have FgO48_mag := Fld.start ((fld_at evgO48).symm.trans evgO49)
  have XgO49 := Exa.start evgO49 (Cond.before_iff.mp (hsets _ (List.mem_of_getElem? (i := 161) rfl)))
  obtain ⟨gO50, evgO50⟩ := exa_v (Cond.before_iff.mp (hsets _ (List.mem_of_getElem? (i := 163) rfl)))
  have XgO50 := Exa.start evgO50 (Cond.before_iff.mp (hsets _ (List.mem_of_getElem? (i := 163) rfl)))
  have FgO50_scale := own_fI evgO50 (Cond.before_iff.mp (hsets _ (List.mem_of_getElem? (i := 164) rfl)))
  have FgO50_intCompact := own_fJ evgO50 (Cond.before_iff.mp (hsets _ (List.mem_of_getElem? (i := 165) rfl)))
  obtain ⟨gO51, evgO51⟩ := exa_v (Cond.before_iff.mp (hsets _ (List.mem_of_getElem? (i := 167) rfl)))
  have FgO50_intVal := Fld.start ((fld_at evgO50).symm.trans evgO51)
  have XgO51 := Exa.start evgO51 (Cond.before_iff.mp (hsets _ (List.mem_of_getElem? (i := 167) rfl)))
  have FgO51_signum := own_fI evgO51 (Cond.before_iff.mp (hsets _ (List.mem_of_getElem? (i := 168) rfl)))
  obtain ⟨gO52, evgO52⟩ := arr_v (Cond.before_iff.mp (hsets _ (List.mem_of_getElem? (i := 169) rfl)))
  have FgO51_mag := Fld.start ((fld_at evgO51).symm.trans evgO52)
  have XgO52 := Exa.start evgO52 (Cond.before_iff.mp (hsets _ (List.mem_of_getElem? (i := 170) rfl)))
  obtain ⟨gO53, evgO53⟩ := exa_v (Cond.before_iff.mp (hsets _ (List.mem_of_getElem? (i := 172) rfl)))
  have XgO53 := Exa.start evgO53 (Cond.before_iff.mp (hsets _ (List.mem_of_getElem? (i := 172) rfl)))
  have FgO53_scale := own_fI evgO53 (Cond.before_iff.mp (hsets _ (List.mem_of_getElem? (i := 173) rfl)))
  have FgO53_intCompact := own_fJ evgO53 (Cond.before_iff.mp (hsets _ (List.mem_of_getElem? (i := 174) rfl)))
  obtain ⟨gO54, evgO54⟩ := exa_v (Cond.before_iff.mp (hsets _ (List.mem_of_getElem? (i := 176) rfl)))
  have FgO53_intVal := Fld.start ((fld_at evgO53).symm.trans evgO54)
  have XgO54 := Exa.start evgO54 (Cond.before_iff.mp (hsets _ (List.mem_of_getElem? (i := 176) rfl)))
  have FgO54_signum := own_fI evgO54 (Cond.before_iff.mp (hsets _ (List.mem_of_getElem? (i := 177) rfl)))
  obtain ⟨gO55, evgO55⟩ := arr_v (Cond.before_iff.mp (hsets _ (List.mem_of_getElem? (i := 178) rfl)))
  have FgO54_mag := Fld.start ((fld_at evgO54).symm.trans evgO55)
  have XgO55 := Exa.start evgO55 (Cond.before_iff.mp (hsets _ (List.mem_of_getElem? (i := 179) rfl)))
  obtain ⟨gO56, evgO56⟩ := exa_v (Cond.before_iff.mp (hsets _ (List.mem_of_getElem? (i := 181) rfl)))
  have XgO56 := Exa.start evgO56 (Cond.before_iff.mp (hsets _ (List.mem_of_getElem? (i := 181) rfl)))
  have FgO56_scale := own_fI evgO56 (Cond.before_iff.mp (hsets _ (List.mem_of_getElem? (i := 182) rfl)))
  have FgO56_intCompact := own_fJ evgO56 (Cond.before_iff.mp (hsets _ (List.mem_of_getElem? (i := 183) rfl)))
  obtain ⟨gO57, evgO57⟩ := exa_v (Cond.before_iff.mp (hsets _ (List.mem_of_getElem? (i := 185) rfl)))
  have FgO56_intVal := Fld.start ((fld_at evgO56).symm.trans evgO57)
  have XgO57 := Exa.start evgO57 (Cond.before_iff.mp (hsets _ (List.mem_of_getElem? (i := 185) rfl)))
  have FgO57_signum := own_fI evgO57 (Cond.before_iff.mp (hsets _ (List.mem_of_getElem? (i := 186) rfl)))
  obtain ⟨gO58, evgO58⟩ := arr_v (Cond.before_iff.mp (hsets _ (List.mem_of_getElem? (i := 187) rfl)))
  have FgO57_mag := Fld.start ((fld_at evgO57).symm.trans evgO58)
  have XgO58 := Exa.start evgO58 (Cond.before_iff.mp (hsets _ (List.mem_of_getElem? (i := 188) rfl)))
  obtain ⟨gO59, evgO59⟩ := exa_v (Cond.before_iff.mp (hsets _ (List.mem_of_getElem? (i := 190) rfl)))
  have XgO59 := Exa.start evgO59 (Cond.before_iff.mp (hsets _ (List.mem_of_getElem? (i := 190) rfl)))
  have FgO59_scale := own_fI evgO59 (Cond.before_iff.mp (hsets _ (List.mem_of_getElem? (i := 191) rfl)))
  have FgO59_intCompact := own_fJ evgO59 (Cond.before_iff.mp (hsets _ (List.mem_of_getElem? (i := 192) rfl)))
  obtain ⟨gO60, evgO60⟩ := exa_v (Cond.before_iff.mp (hsets _ (List.mem_of_getElem? (i := 194) rfl)))
  have FgO59_intVal := Fld.start ((fld_at evgO59).symm.trans evgO60)
  have XgO60 := Exa.start evgO60 (Cond.before_iff.mp (hsets _ (List.mem_of_getElem? (i := 194) rfl)))
  have FgO60_signum := own_fI evgO60 (Cond.before_iff.mp (hsets _ (List.mem_of_getElem? (i := 195) rfl)))
  obtain ⟨gO61, evgO61⟩ := arr_v (Cond.before_iff.mp (hsets _ (List.mem_of_getElem? (i := 196) rfl)))
  have FgO60_mag := Fld.start ((fld_at evgO60).symm.trans evgO61)
  have XgO61 := Exa.start evgO61 (Cond.before_iff.mp (hsets _ (List.mem_of_getElem? (i := 197) rfl)))
  obtain ⟨gO62, evgO62⟩ := exa_v (Cond.before_iff.mp (hsets _ (List.mem_of_getElem? (i := 199) rfl)))
  have XgO62 := Exa.start evgO62 (Cond.before_iff.mp (hsets _ (List.mem_of_getElem? (i := 199) rfl)))
  have FgO62_scale := own_fI evgO62 (Cond.before_iff.mp (hsets _ (List.mem_of_getElem? (i := 200) rfl)))
  have FgO62_intCompact := own_fJ evgO62 (Cond.before_iff.mp (hsets _ (List.mem_of_getElem? (i := 201) rfl)))
  obtain ⟨gO63, evgO63⟩ := exa_v (Cond.before_iff.mp (hsets _ (List.mem_of_getElem? (i := 203) rfl)))
  have FgO62_intVal := Fld.start ((fld_at evgO62).symm.trans evgO63)
  have XgO63 := Exa.start evgO63 (Cond.before_iff.mp (hsets _ (List.mem_of_getElem? (i := 203) rfl)))
  have FgO63_signum := own_fI evgO63 (Cond.before_iff.mp (hsets _ (List.mem_of_getElem? (i := 204) rfl)))
  obtain ⟨gO64, evgO64⟩ := arr_v (Cond.before_iff.mp (hsets _ (List.mem_of_getElem? (i := 205) rfl)))
  have FgO63_mag := Fld.start ((fld_at evgO63).symm.trans evgO64)
  have XgO64 := Exa.start evgO64 (Cond.before_iff.mp (hsets _ (List.mem_of_getElem? (i := 206) rfl)))
  obtain ⟨gO65, evgO65⟩ := exa_v (Cond.before_iff.mp (hsets _ (List.mem_of_getElem? (i := 208) rfl)))
  have XgO65 := Exa.start evgO65 (Cond.before_iff.mp (hsets _ (List.mem_of_getElem? (i := 208) rfl)))
  have FgO65_scale := own_fI evgO65 (Cond.before_iff.mp (hsets _ (List.mem_of_getElem? (i := 209) rfl)))
  have FgO65_intCompact := own_fJ evgO65 (Cond.before_iff.mp (hsets _ (List.mem_of_getElem? (i := 210) rfl)))
  obtain ⟨gO66, evgO66⟩ := exa_v (Cond.before_iff.mp (hsets _ (List.mem_of_getElem? (i := 212) rfl)))
  have FgO65_intVal := Fld.start ((fld_at evgO65).symm.trans evgO66)
  have XgO66 := Exa.start evgO66 (Cond.before_iff.mp (hsets _ (List.mem_of_getElem? (i := 212) rfl)))
  have FgO66_signum := own_fI evgO66 (Cond.before_iff.mp (hsets _ (List.mem_of_getElem? (i := 213) rfl)))
  obtain ⟨gO67, evgO67⟩ := arr_v (Cond.before_iff.mp (hsets _ (List.mem_of_getElem? (i := 214) rfl)))
  have FgO66_mag := Fld.start ((fld_at evgO66).symm.trans evgO67)
  have XgO67 := Exa.start evgO67 (Cond.before_iff.mp (hsets _ (List.mem_of_getElem? (i := 215) rfl)))
  obtain ⟨gO68, evgO68⟩ := exa_v (Cond.before_iff.mp (hsets _ (List.mem_of_getElem? (i := 217) rfl)))
  have XgO68 := Exa.start evgO68 (Cond.before_iff.mp (hsets _ (List.mem_of_getElem? (i := 217) rfl)))
  have FgO68_scale := own_fI evgO68 (Cond.before_iff.mp (hsets _ (List.mem_of_getElem? (i := 218) rfl)))
  have FgO68_intCompact := own_fJ evgO68 (Cond.before_iff.mp (hsets _ (List.mem_of_getElem? (i := 219) rfl)))
  obtain ⟨gO69, evgO69⟩ := exa_v (Cond.before_iff.mp (hsets _ (List.mem_of_getElem? (i := 221) rfl)))
  have FgO68_intVal := Fld.start ((fld_at evgO68).symm.trans evgO69)
  have XgO69 := Exa.start evgO69 (Cond.before_iff.mp (hsets _ (List.mem_of_getElem? (i := 221) rfl)))
  have FgO69_signum := own_fI evgO69 (Cond.before_iff.mp (hsets _ (List.mem_of_getElem? (i := 222) rfl)))
  obtain ⟨gO70, evgO70⟩ := arr_v (Cond.before_iff.mp (hsets _ (List.mem_of_getElem? (i := 223) rfl)))
  have FgO69_mag := Fld.start ((fld_at evgO69).symm.trans evgO70)
  have XgO70 := Exa.start evgO70 (Cond.before_iff.mp (hsets _ (List.mem_of_getElem? (i := 224) rfl)))
  obtain ⟨gO71, evgO71⟩ := exa_v (Cond.before_iff.mp (hsets _ (List.mem_of_getElem? (i := 226) rfl)))
  have XgO71 := Exa.start evgO71 (Cond.before_iff.mp (hsets _ (List.mem_of_getElem? (i := 226) rfl)))
  have FgO71_scale := own_fI evgO71 (Cond.before_iff.mp (hsets _ (List.mem_of_getElem? (i := 227) rfl)))
  have FgO71_intCompact := own_fJ evgO71 (Cond.before_iff.mp (hsets _ (List.mem_of_getElem? (i := 228) rfl)))
  obtain ⟨gO72, evgO72⟩ := exa_v (Cond.before_iff.mp (hsets _ (List.mem_of_getElem? (i := 230) rfl)))
  have FgO71_intVal := Fld.start ((fld_at evgO71).symm.trans evgO72)
  have XgO72 := Exa.start evgO72 (Cond.before_iff.mp (hsets _ (List.mem_of_getElem? (i := 230) rfl)))
  have FgO72_signum := own_fI evgO72 (Cond.before_iff.mp (hsets _ (List.mem_of_getElem? (i := 231) rfl)))
  obtain ⟨gO73, evgO73⟩ := arr_v (Cond.before_iff.mp (hsets _ (List.mem_of_getElem? (i := 232) rfl)))
  have FgO72_mag := Fld.start ((fld_at evgO72).symm.trans evgO73)
  have XgO73 := Exa.start evgO73 (Cond.before_iff.mp (hsets _ (List.mem_of_getElem? (i := 233) rfl)))
  obtain ⟨gO74, evgO74⟩ := exa_v (Cond.before_iff.mp (hsets _ (List.mem_of_getElem? (i := 235) rfl)))
  have XgO74 := Exa.start evgO74 (Cond.before_iff.mp (hsets _ (List.mem_of_getElem? (i := 235) rfl)))
  have FgO74_scale := own_fI evgO74 (Cond.before_iff.mp (hsets _ (List.mem_of_getElem? (i := 236) rfl)))
  have FgO74_intCompact := own_fJ evgO74 (Cond.before_iff.mp (hsets _ (List.mem_of_getElem? (i := 237) rfl)))
  obtain ⟨gO75, evgO75⟩ := exa_v (Cond.before_iff.mp (hsets _ (List.mem_of_getElem? (i := 239) rfl)))
  have FgO74_intVal := Fld.start ((fld_at evgO74).symm.trans evgO75)
  have XgO75 := Exa.start evgO75 (Cond.before_iff.mp (hsets _ (List.mem_of_getElem? (i := 239) rfl)))
  have FgO75_signum := own_fI evgO75 (Cond.before_iff.mp (hsets _ (List.mem_of_getElem? (i := 240) rfl)))
  obtain ⟨gO76, evgO76⟩ := arr_v (Cond.before_iff.mp (hsets _ (List.mem_of_getElem? (i := 241) rfl)))
  have FgO75_mag := Fld.start ((fld_at evgO75).symm.trans evgO76)
  have XgO76 := Exa.start evgO76 (Cond.before_iff.mp (hsets _ (List.mem_of_getElem? (i := 242) rfl)))
  obtain ⟨gO77, evgO77⟩ := exa_v (Cond.before_iff.mp (hsets _ (List.mem_of_getElem? (i := 244) rfl)))
  have XgO77 := Exa.start evgO77 (Cond.before_iff.mp (hsets _ (List.mem_of_getElem? (i := 244) rfl)))
  have FgO77_scale := own_fI evgO77 (Cond.before_iff.mp (hsets _ (List.mem_of_getElem? (i := 245) rfl)))
  have FgO77_intCompact := own_fJ evgO77 (Cond.before_iff.mp (hsets _ (List.mem_of_getElem? (i := 246) rfl)))
  obtain ⟨gO78, evgO78⟩ := exa_v (Cond.before_iff.mp (hsets _ (List.mem_of_getElem? (i := 248) rfl)))
  have FgO77_intVal := Fld.start ((fld_at evgO77).symm.trans evgO78)
  have XgO78 := Exa.start evgO78 (Cond.before_iff.mp (hsets _ (List.mem_of_getElem? (i := 248) rfl)))
  have FgO78_signum := own_fI evgO78 (Cond.before_iff.mp (hsets _ (List.mem_of_getElem? (i := 249) rfl)))
  obtain ⟨gO79, evgO79⟩ := arr_v (Cond.before_iff.mp (hsets _ (List.mem_of_getElem? (i := 250) rfl)))
  have FgO78_mag := Fld.start ((fld_at evgO78).symm.trans evgO79)
  have XgO79 := Exa.start evgO79 (Cond.before_iff.mp (hsets _ (List.mem_of_getElem? (i := 251) rfl)))
  obtain ⟨gO80, evgO80⟩ := exa_v (Cond.before_iff.mp (hsets _ (List.mem_of_getElem? (i := 253) rfl)))
  have XgO80 := Exa.start evgO80 (Cond.before_iff.mp (hsets _ (List.mem_of_getElem? (i := 253) rfl)))
  have FgO80_scale := own_fI evgO80 (Cond.before_iff.mp (hsets _ (List.mem_of_getElem? (i := 254) rfl)))
  have FgO80_intCompact := own_fJ evgO80 (Cond.before_iff.mp (hsets _ (List.mem_of_getElem? (i := 255) rfl)))
  obtain ⟨gO81, evgO81⟩ := exa_v (Cond.before_iff.mp (hsets _ (List.mem_of_getElem? (i := 257) rfl)))
  have FgO80_intVal := Fld.start ((fld_at evgO80).symm.trans evgO81)
  have XgO81 := Exa.start evgO81 (Cond.before_iff.mp (hsets _ (List.mem_of_getElem? (i := 257) rfl)))
  have FgO81_signum := own_fI evgO81 (Cond.before_iff.mp (hsets _ (List.mem_of_getElem? (i := 258) rfl)))
  obtain ⟨gO82, evgO82⟩ := arr_v (Cond.before_iff.mp (hsets _ (List.mem_of_getElem? (i := 259) rfl)))
  have FgO81_mag := Fld.start ((fld_at evgO81).symm.trans evgO82)
  have XgO82 := Exa.start evgO82 (Cond.before_iff.mp (hsets _ (List.mem_of_getElem? (i := 260) rfl)))
  obtain ⟨gO83, evgO83⟩ := exa_v (Cond.before_iff.mp (hsets _ (List.mem_of_getElem? (i := 262) rfl)))
  have XgO83 := Exa.start evgO83 (Cond.before_iff.mp (hsets _ (List.mem_of_getElem? (i := 262) rfl)))
  have FgO83_scale := own_fI evgO83 (Cond.before_iff.mp (hsets _ (List.mem_of_getElem? (i := 263) rfl)))
  have FgO83_intCompact := own_fJ evgO83 (Cond.before_iff.mp (hsets _ (List.mem_of_getElem? (i := 264) rfl)))
  obtain ⟨gO84, evgO84⟩ := exa_v (Cond.before_iff.mp (hsets _ (List.mem_of_getElem? (i := 266) rfl)))
  have FgO83_intVal := Fld.start ((fld_at evgO83).symm.trans evgO84)
  have XgO84 := Exa.start evgO84 (Cond.before_iff.mp (hsets _ (List.mem_of_getElem? (i := 266) rfl)))
  have FgO84_signum := own_fI evgO84 (Cond.before_iff.mp (hsets _ (List.mem_of_getElem? (i := 267) rfl)))
  obtain ⟨gO85, evgO85⟩ := arr_v (Cond.before_iff.mp (hsets _ (List.mem_of_getElem? (i := 268) rfl)))
  have FgO84_mag := Fld.start ((fld_at evgO84).symm.trans evgO85)
  have XgO85 := Exa.start evgO85 (Cond.before_iff.mp (hsets _ (List.mem_of_getElem? (i := 269) rfl)))
  obtain ⟨gO86, evgO86⟩ := arr_v (Cond.before_iff.mp (hsets _ (List.mem_of_getElem? (i := 273) rfl)))
  have SgO86_LONG_TEN_POWERS_TABLE := Sta.start evgO86 (Or.inl (hsets _ (List.mem_of_getElem? (i := 272) rfl)))
  have XgO86 := Exa.start evgO86 (Cond.before_iff.mp (hsets _ (List.mem_of_getElem? (i := 274) rfl)))
  obtain ⟨gO87, evgO87⟩ := arr_v (Cond.before_iff.mp (hsets _ (List.mem_of_getElem? (i := 297) rfl)))
  have SgO87_THRESHOLDS_TABLE := Sta.start evgO87 (Or.inl (hsets _ (List.mem_of_getElem? (i := 296) rfl)))
  have XgO87 := Exa.start evgO87 (Cond.before_iff.mp (hsets _ (List.mem_of_getElem? (i := 298) rfl)))
  obtain ⟨gO88, evgO88⟩ := exa_v (Cond.before_iff.mp (hsets _ (List.mem_of_getElem? (i := 321) rfl)))
  have SgO88_BI_NANOS_PER_SECOND := Sta.start evgO88 (Or.inl (hsets _ (List.mem_of_getElem? (i := 320) rfl)))
  have XgO88 := Exa.start evgO88 (Cond.before_iff.mp (hsets _ (List.mem_of_getElem? (i := 321) rfl)))
  have FgO88_signum := own_fI evgO88 (Cond.before_iff.mp (hsets _ (List.mem_of_getElem? (i := 322) rfl)))
  obtain ⟨gO89, evgO89⟩ := arr_v (Cond.before_iff.mp (hsets _ (List.mem_of_getElem? (i := 323) rfl)))
  have FgO88_mag := Fld.start ((fld_at evgO88).symm.trans evgO89)
  have XgO89 := Exa.start evgO89 (Cond.before_iff.mp (hsets _ (List.mem_of_getElem? (i := 324) rfl)))
  obtain ⟨gO90, evgO90⟩ := exa_v (Cond.before_iff.mp (hsets _ (List.mem_of_getElem? (i := 329) rfl)))
  have SgO90_ZERO := Sta.start evgO90 (Or.inl (hsets _ (List.mem_of_getElem? (i := 5) rfl)))
  have XgO90 := Exa.start evgO90 (Cond.before_iff.mp (hsets _ (List.mem_of_getElem? (i := 329) rfl)))
  have FgO90_signum := own_fI evgO90 (Cond.before_iff.mp (hsets _ (List.mem_of_getElem? (i := 330) rfl)))
  obtain ⟨gO91, evgO91⟩ := arr_v (Cond.before_iff.mp (hsets _ (List.mem_of_getElem? (i := 331) rfl)))
  have FgO90_mag := Fld.start ((fld_at evgO90).symm.trans evgO91)
  have XgO91 := Exa.start evgO91 (Cond.before_iff.mp (hsets _ (List.mem_of_getElem? (i := 332) rfl)))
  obtain ⟨cl_gO3, AgO3⟩ := Arr.start evgO3 (Cond.before_iff.mp (hsets _ (List.mem_of_getElem? (i := 18) rfl)))
  obtain ⟨zgO3, ygO3⟩ := own_len evgO3 AgO3 (Cond.before_iff.mp (hsets _ (List.mem_of_getElem? (i := 20) rfl)))
  have VgO3 : Arv s s.heap gO3 cl_gO3.cls (.object s0) (11 : Int32) [(.ref gO4), (.ref gO7), (.ref gO10), (.ref gO13), (.ref gO16), (.ref gO19), (.ref gO22), (.ref gO25), (.ref gO28), (.ref gO31), (.ref gO34)] .null := Arv.start hfit AgO3 zgO3 ygO3 (by decide) rfl ⟨own_elR evgO3 AgO3 evgO4 (k := 0) (by decide), own_elR evgO3 AgO3 evgO7 (k := 1) (by decide), own_elR evgO3 AgO3 evgO10 (k := 2) (by decide), own_elR evgO3 AgO3 evgO13 (k := 3) (by decide), own_elR evgO3 AgO3 evgO16 (k := 4) (by decide), own_elR evgO3 AgO3 evgO19 (k := 5) (by decide), own_elR evgO3 AgO3 evgO22 (k := 6) (by decide), own_elR evgO3 AgO3 evgO25 (k := 7) (by decide), own_elR evgO3 AgO3 evgO28 (k := 8) (by decide), own_elR evgO3 AgO3 evgO31 (k := 9) (by decide), own_elR evgO3 AgO3 evgO34 (k := 10) (by decide), trivial⟩
  obtain ⟨cl_gO6, AgO6⟩ := Arr.start evgO6 (Cond.before_iff.mp (hsets _ (List.mem_of_getElem? (i := 28) rfl)))
  obtain ⟨zgO6, ygO6⟩ := own_len evgO6 AgO6 (Cond.before_iff.mp (hsets _ (List.mem_of_getElem? (i := 30) rfl)))
  have VgO6 : Arv s s.heap gO6 cl_gO6.cls .int (0 : Int32) [] iZ := Arv.start hfit AgO6 zgO6 ygO6 (by decide) (by decide) trivial
  obtain ⟨cl_gO37, AgO37⟩ := Arr.start evgO37 (Cond.before_iff.mp (hsets _ (List.mem_of_getElem? (i := 123) rfl)))
  obtain ⟨zgO37, ygO37⟩ := own_len evgO37 AgO37 (Cond.before_iff.mp (hsets _ (List.mem_of_getElem? (i := 125) rfl)))
  have VgO37 : Arv s s.heap gO37 cl_gO37.cls (.object s0) (16 : Int32) [(.ref gO38), (.ref gO41), (.ref gO44), (.ref gO47), (.ref gO50), (.ref gO53), (.ref gO56), (.ref gO59), (.ref gO62), (.ref gO65), (.ref gO68), (.ref gO71), (.ref gO74), (.ref gO77), (.ref gO80), (.ref gO83)] .null := Arv.start hfit AgO37 zgO37 ygO37 (by decide) rfl ⟨own_elR evgO37 AgO37 evgO38 (k := 0) (by decide), own_elR evgO37 AgO37 evgO41 (k := 1) (by decide), own_elR evgO37 AgO37 evgO44 (k := 2) (by decide), own_elR evgO37 AgO37 evgO47 (k := 3) (by decide), own_elR evgO37 AgO37 evgO50 (k := 4) (by decide), own_elR evgO37 AgO37 evgO53 (k := 5) (by decide), own_elR evgO37 AgO37 evgO56 (k := 6) (by decide), own_elR evgO37 AgO37 evgO59 (k := 7) (by decide), own_elR evgO37 AgO37 evgO62 (k := 8) (by decide), own_elR evgO37 AgO37 evgO65 (k := 9) (by decide), own_elR evgO37 AgO37 evgO68 (k := 10) (by decide), own_elR evgO37 AgO37 evgO71 (k := 11) (by decide), own_elR evgO37 AgO37 evgO74 (k := 12) (by decide), own_elR evgO37 AgO37 evgO77 (k := 13) (by decide), own_elR evgO37 AgO37 evgO80 (k := 14) (by decide), own_elR evgO37 AgO37 evgO83 (k := 15) (by decide), trivial⟩
  obtain ⟨cl_gO40, AgO40⟩ := Arr.start evgO40 (Cond.before_iff.mp (hsets _ (List.mem_of_getElem? (i := 133) rfl)))
  obtain ⟨zgO40, ygO40⟩ := own_len evgO40 AgO40 (Cond.before_iff.mp (hsets _ (List.mem_of_getElem? (i := 135) rfl)))
  have VgO40 : Arv s s.heap gO40 cl_gO40.cls .int (0 : Int32) [] iZ := Arv.start hfit AgO40 zgO40 ygO40 (by decide) (by decide) trivial
  obtain ⟨cl_gO43, AgO43⟩ := Arr.start evgO43 (Cond.before_iff.mp (hsets _ (List.mem_of_getElem? (i := 142) rfl)))
  obtain ⟨zgO43, ygO43⟩ := own_len evgO43 AgO43 (Cond.before_iff.mp (hsets _ (List.mem_of_getElem? (i := 144) rfl)))
  have VgO43 : Arv s s.heap gO43 cl_gO43.cls .int (0 : Int32) [] iZ := Arv.start hfit AgO43 zgO43 ygO43 (by decide) (by decide) trivial
  obtain ⟨cl_gO46, AgO46⟩ := Arr.start evgO46 (Cond.before_iff.mp (hsets _ (List.mem_of_getElem? (i := 151) rfl)))
  obtain ⟨zgO46, ygO46⟩ := own_len evgO46 AgO46 (Cond.before_iff.mp (hsets _ (List.mem_of_getElem? (i := 153) rfl)))
  have VgO46 : Arv s s.heap gO46 cl_gO46.cls .int (0 : Int32) [] iZ := Arv.start hfit AgO46 zgO46 ygO46 (by decide) (by decide) trivial
  obtain ⟨cl_gO49, AgO49⟩ := Arr.start evgO49 (Cond.before_iff.mp (hsets _ (List.mem_of_getElem? (i := 160) rfl)))
  obtain ⟨zgO49, ygO49⟩ := own_len evgO49 AgO49 (Cond.before_iff.mp (hsets _ (List.mem_of_getElem? (i := 162) rfl)))
  have VgO49 : Arv s s.heap gO49 cl_gO49.cls .int (0 : Int32) [] iZ := Arv.start hfit AgO49 zgO49 ygO49 (by decide) (by decide) trivial
  obtain ⟨cl_gO52, AgO52⟩ := Arr.start evgO52 (Cond.before_iff.mp (hsets _ (List.mem_of_getElem? (i := 169) rfl)))
  obtain ⟨zgO52, ygO52⟩ := own_len evgO52 AgO52 (Cond.before_iff.mp (hsets _ (List.mem_of_getElem? (i := 171) rfl)))
  have VgO52 : Arv s s.heap gO52 cl_gO52.cls .int (0 : Int32) [] iZ := Arv.start hfit AgO52 zgO52 ygO52 (by decide) (by decide) trivial
  obtain ⟨cl_gO55, AgO55⟩ := Arr.start evgO55 (Cond.before_iff.mp (hsets _ (List.mem_of_getElem? (i := 178) rfl)))
  obtain ⟨zgO55, ygO55⟩ := own_len evgO55 AgO55 (Cond.before_iff.mp (hsets _ (List.mem_of_getElem? (i := 180) rfl)))
  have VgO55 : Arv s s.heap gO55 cl_gO55.cls .int (0 : Int32) [] iZ := Arv.start hfit AgO55 zgO55 ygO55 (by decide) (by decide) trivial
  obtain ⟨cl_gO58, AgO58⟩ := Arr.start evgO58 (Cond.before_iff.mp (hsets _ (List.mem_of_getElem? (i := 187) rfl)))
  obtain ⟨zgO58, ygO58⟩ := own_len evgO58 AgO58 (Cond.before_iff.mp (hsets _ (List.mem_of_getElem? (i := 189) rfl)))
  have VgO58 : Arv s s.heap gO58 cl_gO58.cls .int (0 : Int32) [] iZ := Arv.start hfit AgO58 zgO58 ygO58 (by decide) (by decide) trivial
  obtain ⟨cl_gO61, AgO61⟩ := Arr.start evgO61 (Cond.before_iff.mp (hsets _ (List.mem_of_getElem? (i := 196) rfl)))
  obtain ⟨zgO61, ygO61⟩ := own_len evgO61 AgO61 (Cond.before_iff.mp (hsets _ (List.mem_of_getElem? (i := 198) rfl)))
  have VgO61 : Arv s s.heap gO61 cl_gO61.cls .int (0 : Int32) [] iZ := Arv.start hfit AgO61 zgO61 ygO61 (by decide) (by decide) trivial
  obtain ⟨cl_gO64, AgO64⟩ := Arr.start evgO64 (Cond.before_iff.mp (hsets _ (List.mem_of_getElem? (i := 205) rfl)))
  obtain ⟨zgO64, ygO64⟩ := own_len evgO64 AgO64 (Cond.before_iff.mp (hsets _ (List.mem_of_getElem? (i := 207) rfl)))
  have VgO64 : Arv s s.heap gO64 cl_gO64.cls .int (0 : Int32) [] iZ := Arv.start hfit AgO64 zgO64 ygO64 (by decide) (by decide) trivial
  obtain ⟨cl_gO67, AgO67⟩ := Arr.start evgO67 (Cond.before_iff.mp (hsets _ (List.mem_of_getElem? (i := 214) rfl)))
  obtain ⟨zgO67, ygO67⟩ := own_len evgO67 AgO67 (Cond.before_iff.mp (hsets _ (List.mem_of_getElem? (i := 216) rfl)))
  have VgO67 : Arv s s.heap gO67 cl_gO67.cls .int (0 : Int32) [] iZ := Arv.start hfit AgO67 zgO67 ygO67 (by decide) (by decide) trivial
  obtain ⟨cl_gO70, AgO70⟩ := Arr.start evgO70 (Cond.before_iff.mp (hsets _ (List.mem_of_getElem? (i := 223) rfl)))
  obtain ⟨zgO70, ygO70⟩ := own_len evgO70 AgO70 (Cond.before_iff.mp (hsets _ (List.mem_of_getElem? (i := 225) rfl)))
  have VgO70 : Arv s s.heap gO70 cl_gO70.cls .int (0 : Int32) [] iZ := Arv.start hfit AgO70 zgO70 ygO70 (by decide) (by decide) trivial
  obtain ⟨cl_gO73, AgO73⟩ := Arr.start evgO73 (Cond.before_iff.mp (hsets _ (List.mem_of_getElem? (i := 232) rfl)))
  obtain ⟨zgO73, ygO73⟩ := own_len evgO73 AgO73 (Cond.before_iff.mp (hsets _ (List.mem_of_getElem? (i := 234) rfl)))
  have VgO73 : Arv s s.heap gO73 cl_gO73.cls .int (0 : Int32) [] iZ := Arv.start hfit AgO73 zgO73 ygO73 (by decide) (by decide) trivial
  obtain ⟨cl_gO76, AgO76⟩ := Arr.start evgO76 (Cond.before_iff.mp (hsets _ (List.mem_of_getElem? (i := 241) rfl)))
  obtain ⟨zgO76, ygO76⟩ := own_len evgO76 AgO76 (Cond.before_iff.mp (hsets _ (List.mem_of_getElem? (i := 243) rfl)))
  have VgO76 : Arv s s.heap gO76 cl_gO76.cls .int (0 : Int32) [] iZ := Arv.start hfit AgO76 zgO76 ygO76 (by decide) (by decide) trivial
  obtain ⟨cl_gO79, AgO79⟩ := Arr.start evgO79 (Cond.before_iff.mp (hsets _ (List.mem_of_getElem? (i := 250) rfl)))
  obtain ⟨zgO79, ygO79⟩ := own_len evgO79 AgO79 (Cond.before_iff.mp (hsets _ (List.mem_of_getElem? (i := 252) rfl)))
  have VgO79 : Arv s s.heap gO79 cl_gO79.cls .int (0 : Int32) [] iZ := Arv.start hfit AgO79 zgO79 ygO79 (by decide) (by decide) trivial
  obtain ⟨cl_gO82, AgO82⟩ := Arr.start evgO82 (Cond.before_iff.mp (hsets _ (List.mem_of_getElem? (i := 259) rfl)))
  obtain ⟨zgO82, ygO82⟩ := own_len evgO82 AgO82 (Cond.before_iff.mp (hsets _ (List.mem_of_getElem? (i := 261) rfl)))
  have VgO82 : Arv s s.heap gO82 cl_gO82.cls .int (0 : Int32) [] iZ := Arv.start hfit AgO82 zgO82 ygO82 (by decide) (by decide) trivial
  obtain ⟨cl_gO85, AgO85⟩ := Arr.start evgO85 (Cond.before_iff.mp (hsets _ (List.mem_of_getElem? (i := 268) rfl)))
  obtain ⟨zgO85, ygO85⟩ := own_len evgO85 AgO85 (Cond.before_iff.mp (hsets _ (List.mem_of_getElem? (i := 270) rfl)))
  have VgO85 : Arv s s.heap gO85 cl_gO85.cls .int (0 : Int32) [] iZ := Arv.start hfit AgO85 zgO85 ygO85 (by decide) (by decide) trivial
  obtain ⟨cl_gO86, AgO86⟩ := Arr.start evgO86 (Cond.before_iff.mp (hsets _ (List.mem_of_getElem? (i := 273) rfl)))
  obtain ⟨zgO86, ygO86⟩ := own_len evgO86 AgO86 (Cond.before_iff.mp (hsets _ (List.mem_of_getElem? (i := 275) rfl)))
  have VgO86 : Arv s s.heap gO86 cl_gO86.cls .long (19 : Int32) [(.long 1), (.long 10), (.long 100), (.long 1000), (.long 10000), (.long 100000), (.long 1000000), (.long 10000000), (.long 100000000), (.long 1000000000), (.long 10000000000), (.long 100000000000), (.long 1000000000000), (.long 10000000000000), (.long 100000000000000), (.long 1000000000000000), (.long 10000000000000000), (.long 100000000000000000), (.long 1000000000000000000)] (.long 0) := Arv.start hfit AgO86 zgO86 ygO86 (by decide) rfl ⟨own_elJ evgO86 AgO86 (Cond.before_iff.mp (hsets _ (List.mem_of_getElem? (i := 276) rfl))) (k := 0) (by decide), own_elJ evgO86 AgO86 (Cond.before_iff.mp (hsets _ (List.mem_of_getElem? (i := 277) rfl))) (k := 1) (by decide), own_elJ evgO86 AgO86 (Cond.before_iff.mp (hsets _ (List.mem_of_getElem? (i := 278) rfl))) (k := 2) (by decide), own_elJ evgO86 AgO86 (Cond.before_iff.mp (hsets _ (List.mem_of_getElem? (i := 279) rfl))) (k := 3) (by decide), own_elJ evgO86 AgO86 (Cond.before_iff.mp (hsets _ (List.mem_of_getElem? (i := 280) rfl))) (k := 4) (by decide), own_elJ evgO86 AgO86 (Cond.before_iff.mp (hsets _ (List.mem_of_getElem? (i := 281) rfl))) (k := 5) (by decide), own_elJ evgO86 AgO86 (Cond.before_iff.mp (hsets _ (List.mem_of_getElem? (i := 282) rfl))) (k := 6) (by decide), own_elJ evgO86 AgO86 (Cond.before_iff.mp (hsets _ (List.mem_of_getElem? (i := 283) rfl))) (k := 7) (by decide), own_elJ evgO86 AgO86 (Cond.before_iff.mp (hsets _ (List.mem_of_getElem? (i := 284) rfl))) (k := 8) (by decide), own_elJ evgO86 AgO86 (Cond.before_iff.mp (hsets _ (List.mem_of_getElem? (i := 285) rfl))) (k := 9) (by decide), own_elJ evgO86 AgO86 (Cond.before_iff.mp (hsets _ (List.mem_of_getElem? (i := 286) rfl))) (k := 10) (by decide), own_elJ evgO86 AgO86 (Cond.before_iff.mp (hsets _ (List.mem_of_getElem? (i := 287) rfl))) (k := 11) (by decide), own_elJ evgO86 AgO86 (Cond.before_iff.mp (hsets _ (List.mem_of_getElem? (i := 288) rfl))) (k := 12) (by decide), own_elJ evgO86 AgO86 (Cond.before_iff.mp (hsets _ (List.mem_of_getElem? (i := 289) rfl))) (k := 13) (by decide), own_elJ evgO86 AgO86 (Cond.before_iff.mp (hsets _ (List.mem_of_getElem? (i := 290) rfl))) (k := 14) (by decide), own_elJ evgO86 AgO86 (Cond.before_iff.mp (hsets _ (List.mem_of_getElem? (i := 291) rfl))) (k := 15) (by decide), own_elJ evgO86 AgO86 (Cond.before_iff.mp (hsets _ (List.mem_of_getElem? (i := 292) rfl))) (k := 16) (by decide), own_elJ evgO86 AgO86 (Cond.before_iff.mp (hsets _ (List.mem_of_getElem? (i := 293) rfl))) (k := 17) (by decide), own_elJ evgO86 AgO86 (Cond.before_iff.mp (hsets _ (List.mem_of_getElem? (i := 294) rfl))) (k := 18) (by decide), trivial⟩
  obtain ⟨cl_gO87, AgO87⟩ := Arr.start evgO87 (Cond.before_iff.mp (hsets _ (List.mem_of_getElem? (i := 297) rfl)))
  obtain ⟨zgO87, ygO87⟩ := own_len evgO87 AgO87 (Cond.before_iff.mp (hsets _ (List.mem_of_getElem? (i := 299) rfl)))
  have VgO87 : Arv s s.heap gO87 cl_gO87.cls .long (19 : Int32) [(.long 9223372036854775807), (.long 922337203685477580), (.long 92233720368547758), (.long 9223372036854775), (.long 922337203685477), (.long 92233720368547), (.long 9223372036854), (.long 922337203685), (.long 92233720368), (.long 9223372036), (.long 922337203), (.long 92233720), (.long 9223372), (.long 922337), (.long 92233), (.long 9223), (.long 922), (.long 92), (.long 9)] (.long 0) := Arv.start hfit AgO87 zgO87 ygO87 (by decide) rfl ⟨own_elJ evgO87 AgO87 (Cond.before_iff.mp (hsets _ (List.mem_of_getElem? (i := 300) rfl))) (k := 0) (by decide), own_elJ evgO87 AgO87 (Cond.before_iff.mp (hsets _ (List.mem_of_getElem? (i := 301) rfl))) (k := 1) (by decide), own_elJ evgO87 AgO87 (Cond.before_iff.mp (hsets _ (List.mem_of_getElem? (i := 302) rfl))) (k := 2) (by decide), own_elJ evgO87 AgO87 (Cond.before_iff.mp (hsets _ (List.mem_of_getElem? (i := 303) rfl))) (k := 3) (by decide), own_elJ evgO87 AgO87 (Cond.before_iff.mp (hsets _ (List.mem_of_getElem? (i := 304) rfl))) (k := 4) (by decide), own_elJ evgO87 AgO87 (Cond.before_iff.mp (hsets _ (List.mem_of_getElem? (i := 305) rfl))) (k := 5) (by decide), own_elJ evgO87 AgO87 (Cond.before_iff.mp (hsets _ (List.mem_of_getElem? (i := 306) rfl))) (k := 6) (by decide), own_elJ evgO87 AgO87 (Cond.before_iff.mp (hsets _ (List.mem_of_getElem? (i := 307) rfl))) (k := 7) (by decide), own_elJ evgO87 AgO87 (Cond.before_iff.mp (hsets _ (List.mem_of_getElem? (i := 308) rfl))) (k := 8) (by decide), own_elJ evgO87 AgO87 (Cond.before_iff.mp (hsets _ (List.mem_of_getElem? (i := 309) rfl))) (k := 9) (by decide), own_elJ evgO87 AgO87 (Cond.before_iff.mp (hsets _ (List.mem_of_getElem? (i := 310) rfl))) (k := 10) (by decide), own_elJ evgO87 AgO87 (Cond.before_iff.mp (hsets _ (List.mem_of_getElem? (i := 311) rfl))) (k := 11) (by decide), own_elJ evgO87 AgO87 (Cond.before_iff.mp (hsets _ (List.mem_of_getElem? (i := 312) rfl))) (k := 12) (by decide), own_elJ evgO87 AgO87 (Cond.before_iff.mp (hsets _ (List.mem_of_getElem? (i := 313) rfl))) (k := 13) (by decide), own_elJ evgO87 AgO87 (Cond.before_iff.mp (hsets _ (List.mem_of_getElem? (i := 314) rfl))) (k := 14) (by decide), own_elJ evgO87 AgO87 (Cond.before_iff.mp (hsets _ (List.mem_of_getElem? (i := 315) rfl))) (k := 15) (by decide), own_elJ evgO87 AgO87 (Cond.before_iff.mp (hsets _ (List.mem_of_getElem? (i := 316) rfl))) (k := 16) (by decide), own_elJ evgO87 AgO87 (Cond.before_iff.mp (hsets _ (List.mem_of_getElem? (i := 317) rfl))) (k := 17) (by decide), own_elJ evgO87 AgO87 (Cond.before_iff.mp (hsets _ (List.mem_of_getElem? (i := 318) rfl))) (k := 18) (by decide), trivial⟩
  obtain ⟨cl_gO89, AgO89⟩ := Arr.start evgO89 (Cond.before_iff.mp (hsets _ (List.mem_of_getElem? (i := 323) rfl)))
  obtain ⟨zgO89, ygO89⟩ := own_len evgO89 AgO89 (Cond.before_iff.mp (hsets _ (List.mem_of_getElem? (i := 325) rfl)))
  have VgO89 : Arv s s.heap gO89 cl_gO89.cls .int (1 : Int32) [(.int 1000000000)] iZ := Arv.start hfit AgO89 zgO89 ygO89 (by decide) rfl ⟨own_elI evgO89 AgO89 (Cond.before_iff.mp (hsets _ (List.mem_of_getElem? (i := 326) rfl))) (k := 0) (by decide), trivial⟩
  obtain ⟨cl_gO91, AgO91⟩ := Arr.start evgO91 (Cond.before_iff.mp (hsets _ (List.mem_of_getElem? (i := 331) rfl)))
  obtain ⟨zgO91, ygO91⟩ := own_len evgO91 AgO91 (Cond.before_iff.mp (hsets _ (List.mem_of_getElem? (i := 333) rfl)))
  have VgO91 : Arv s s.heap gO91 cl_gO91.cls .int (0 : Int32) [] iZ := Arv.start hfit AgO91 zgO91 ygO91 (by decide) (by decide) trivial
  obtain ⟨n, o, h1, h2, h3, _, L, rfl, ⟨N, -, rfl⟩, hq⟩ := rm_law l hw gO1 gO2 gO3 gO4 gO7 gO10 gO13 gO16 gO19 gO22 gO25 gO28 gO31 gO34 gO37 gO38 gO41 gO44 gO47 gO50 gO53 gO56 gO59 gO62 gO65 gO68 gO71 gO74 gO77 gO80 gO83 gO86 gO87 gO88 gO89 gO90 gO91 cl_gO3.cls cl_gO37.cls cl_gO86.cls cl_gO87.cls cl_gO89.cls cl_gO91.cls i0 s.heap (Old.start s) SgO1_FIRST XgO1 SgO2_MAX FgO1_seconds FgO2_seconds FgO1_nanos SgO3_ZERO_THROUGH_TEN VgO3 SgO37_ZERO_SCALED_BY VgO37 FgO7_intCompact FgO65_intCompact FgO7_scale FgO65_scale SgO86_LONG_TEN_POWERS_TABLE SgO87_THRESHOLDS_TABLE VgO86 VgO87 XgO7 FgO10_scale FgO10_intCompact SgO88_BI_NANOS_PER_SECOND FgO88_mag VgO89 FgO88_signum SgO90_ZERO XgO90 FgO90_mag VgO91 FgO90_signum FgO16_scale FgO16_intCompact FgO28_scale FgO28_intCompact XgO2 FgO2_nanos p e ha hc hk s m _ below hf ((Spec.applies_iff_loose hf).mp happ).1 ⟨rfl, State.Warmed39.refl s, rfl⟩ trivial
  refine ⟨n, _, h1, h2, h3, hpost _ _ _ _ _ _ ⟨Cond.after_iff.mpr rfl, Cond.after_iff.mpr (eq_i res_at (Term.int_eval (1)) rfl), trivial⟩ ⟨hq.1, hq.2.1, (hq.2.2.sift fun y hy => Or.inr (N y hy)).mono (by decide) (by decide)⟩⟩
theorem main_1_1 : Claimed_1_1 := comes_1 fun _ _ _ _ _ _ h hF => ⟨h.1, hF⟩
theorem main_1_2 : Claimed_1_2 := comes_1 fun _ _ _ _ _ _ h hF => ⟨h.2.1, hF⟩
end Jvm.Pilot.@@N@@
namespace Jvm.Pilot.@@N@@
open Jvm Jvm.ClassFile Sem Op Lib Jvm.Free Jvm.Stand Jvm.Pilot.@@N@@.Jvm.D
/-! MADE BY PROGRAM (witnessworld.py) out of the Statement's table words and the real class files: 27 classes; the members and pool entries that the words name. The judged class is class 1, her method 3. -/
namespace start1
open Jvm.ClassFile
def u (s : String) : CpInfo := .utf8 (stringToUtf16 s)
/-- a pool by its gaps: so many unusable entries, then the entry; so many at the end -/
def gap : Nat → List CpInfo → List CpInfo
  | 0, r => r
  | n + 1, r => .unusable :: gap n r
def poolList (es : List (Nat × CpInfo)) (last : Nat) : List CpInfo := es.foldr (fun e r => gap e.1 (e.2 :: r)) (gap last [])
def pool (es : List (Nat × CpInfo)) (last : Nat) : Array CpInfo := ⟨poolList es last⟩
def fileOf (pool : Array CpInfo) (this : Nat) (attrs : Array Attribute := #[]) (ms : Array MethodInfo := #[]) (fl : Nat := 33) (sup : Nat := 0) (ifs : Array Nat := #[]) (fds : Array FieldInfo := #[]) : ClassFile where
  minorVersion := 0
  majorVersion := 65
  constantPool := pool
  accessFlags := fl
  thisClass := this
  superClass := sup
  interfaces := ifs
  fields := fds
  methods := ms
  attributes := attrs
def plain (name : String) (sup : Option ClassId) : Class where
  name := name
  kind := .ordinary
  loader := none
  accessFlags := 33
  super := sup
  interfaces := #[]
  cf := none
  fields := #[]
  methods := #[]
  instanceTypes := #[]
  staticTypes := #[]
  resolved := #[]
  callSites := []
  init := .initialized
  statics := none
  mirror := none

def pool0 : Array CpInfo := pool [(5, u "<init>"), (0, u "()V"), (1, .class_ 10), (1, u "java/lang/Object")] 113

def k0c0 : Code := { maxStack := 0, maxLocals := 1, code := object_method_1_code, exceptionTable := #[], attributes := #[] }
def k0m0 : Method := { name := "<init>", desc := "()V", sig := { parameters := [], returnType := none }, accessFlags := 1, code := some k0c0 }
/-- java/lang/Object -/
def k0 : Class := { plain "java/lang/Object" none with
  accessFlags := 33
  interfaces := #[]
  cf := some (fileOf pool0 8 #[] #[⟨1, 5, 6, #[]⟩] 33 0 #[] #[])
  fields := #[]
  methods := #[k0m0]
  instanceTypes := #[]
  staticTypes := #[]
  resolved := Array.replicate 124 none
  statics := none }

def pool1 : Array CpInfo := pool [(2, .class_ 4), (0, .nameAndType 5 6), (0, u "java/lang/Object"), (0, u "<init>"), (0, u "()V"), (0, .long 2), (1, .long 4), (1, .long 8), (1, .long 10), (1, .methodref 16 17), (0, .class_ 18), (0, .nameAndType 19 20), (0, u "java/time/Duration"), (0, u "getSeconds"), (0, u "()J"), (0, .methodref 22 23), (0, .class_ 24), (0, .nameAndType 25 26), (0, u "com/example/harbinger/harbinger/BackoffFailedPinLaw"), (0, u "expectedSeconds"), (0, u "(I)J"), (0, .methodref 16 28), (0, .nameAndType 29 30), (0, u "getNano"), (0, u "()I"), (0, .class_ 32), (0, u "com/example/harbinger/harbinger/Backoff"), (0, .methodref 31 3), (0, .methodref 31 35), (0, .nameAndType 36 37), (0, u "failed"), (0, u "()Ljava/time/Duration;"), (0, .methodref 22 39), (0, .nameAndType 40 41), (0, u "matches"), (0, u "(Ljava/time/Duration;I)Z"), (0, .methodref 31 43), (0, .nameAndType 44 6), (0, u "succeeded"), (3, u "law"), (0, u "(I)Z")] 2

def k1m0 : Method := { name := "<init>", desc := "()V", sig := { parameters := [], returnType := none }, accessFlags := 1, code := none }
def k1c1 : Code := { maxStack := 2, maxLocals := 1, code := method_2_code, exceptionTable := #[], attributes := #[] }
def k1m1 : Method := { name := "expectedSeconds", desc := "(I)J", sig := { parameters := [.int], returnType := some .long }, accessFlags := 10, code := some k1c1 }
def k1c2 : Code := { maxStack := 4, maxLocals := 2, code := method_3_code, exceptionTable := #[], attributes := #[] }
def k1m2 : Method := { name := "matches", desc := "(Ljava/time/Duration;I)Z", sig := { parameters := [(.object "java/time/Duration"), .int], returnType := some .boolean }, accessFlags := 10, code := some k1c2 }
def k1c3 : Code := { maxStack := 2, maxLocals := 4, code := code, exceptionTable := #[], attributes := #[] }
def k1m3 : Method := { name := "law", desc := "(I)Z", sig := { parameters := [.int], returnType := some .boolean }, accessFlags := 9, code := some k1c3 }
/-- com/example/harbinger/harbinger/BackoffFailedPinLaw -/
def k1 : Class := { plain "com/example/harbinger/harbinger/BackoffFailedPinLaw" (some 0) with
  accessFlags := 49
  interfaces := #[]
  cf := some (fileOf pool1 22 #[] #[⟨1, 5, 6, #[]⟩, ⟨10, 25, 26, #[]⟩, ⟨10, 40, 41, #[]⟩, ⟨9, 48, 49, #[]⟩] 49 2 #[] #[])
  fields := #[]
  methods := #[k1m0, k1m1, k1m2, k1m3]
  instanceTypes := #[]
  staticTypes := #[]
  resolved := Array.replicate 52 none
  statics := none }

def pool2 : Array CpInfo := pool [(1, .methodref 2 3), (0, .class_ 4), (0, .nameAndType 5 6), (0, u "java/lang/Object"), (0, u "<init>"), (0, u "()V"), (9, .fieldref 17 18), (0, .class_ 19), (0, .nameAndType 20 21), (0, u "com/example/harbinger/harbinger/Backoff"), (0, u "FIRST"), (0, u "Ljava/time/Duration;"), (0, .methodref 23 24), (0, .class_ 25), (0, .nameAndType 26 27), (0, u "java/lang/Math"), (0, u "min"), (0, u "(II)I"), (0, .methodref 29 30), (0, .class_ 31), (0, .nameAndType 32 33), (0, u "java/time/Duration"), (0, u "multipliedBy"), (0, u "(J)Ljava/time/Duration;"), (0, .fieldref 17 35), (0, .nameAndType 36 21), (0, u "MAX"), (0, .methodref 29 38), (0, .nameAndType 39 40), (0, u "compareTo"), (0, u "(Ljava/time/Duration;)I"), (0, .fieldref 17 42), (0, .nameAndType 43 44), (0, u "failures"), (0, u "I"), (0, .methodref 17 46), (0, .nameAndType 47 48), (0, u "after"), (0, u "(I)Ljava/time/Duration;"), (5, u "MAX_ATTEMPTS"), (5, u "failed"), (0, u "()Ljava/time/Duration;"), (0, u "succeeded")] 18

def k2c0 : Code := { maxStack := 1, maxLocals := 1, code := prog_3_method_1_code, exceptionTable := #[], attributes := #[] }
def k2m0 : Method := { name := "<init>", desc := "()V", sig := { parameters := [], returnType := none }, accessFlags := 0, code := some k2c0 }
def k2c1 : Code := { maxStack := 5, maxLocals := 2, code := prog_3_method_2_code, exceptionTable := #[], attributes := #[] }
def k2m1 : Method := { name := "after", desc := "(I)Ljava/time/Duration;", sig := { parameters := [.int], returnType := some (.object "java/time/Duration") }, accessFlags := 8, code := some k2c1 }
def k2c2 : Code := { maxStack := 3, maxLocals := 1, code := prog_3_method_3_code, exceptionTable := #[], attributes := #[] }
def k2m2 : Method := { name := "failed", desc := "()Ljava/time/Duration;", sig := { parameters := [], returnType := some (.object "java/time/Duration") }, accessFlags := 0, code := some k2c2 }
def k2c3 : Code := { maxStack := 2, maxLocals := 1, code := prog_3_method_4_code, exceptionTable := #[], attributes := #[] }
def k2m3 : Method := { name := "succeeded", desc := "()V", sig := { parameters := [], returnType := none }, accessFlags := 0, code := some k2c3 }
/-- com/example/harbinger/harbinger/Backoff -/
def k2 : Class := { plain "com/example/harbinger/harbinger/Backoff" (some 0) with
  accessFlags := 48
  interfaces := #[]
  cf := some (fileOf pool2 17 #[] #[⟨0, 5, 6, #[]⟩, ⟨8, 47, 48, #[]⟩, ⟨0, 60, 61, #[]⟩, ⟨0, 62, 6, #[]⟩] 48 2 #[] #[⟨24, 20, 21, #[]⟩, ⟨24, 36, 21, #[]⟩, ⟨24, 54, 44, #[]⟩, ⟨2, 43, 44, #[]⟩])
  fields := #[⟨"FIRST", (.object "java/time/Duration"), 24, 0, 0⟩, ⟨"MAX", (.object "java/time/Duration"), 24, 1, 0⟩, ⟨"MAX_ATTEMPTS", .int, 24, 2, 0⟩, ⟨"failures", .int, 2, 0, 0⟩]
  methods := #[k2m0, k2m1, k2m2, k2m3]
  instanceTypes := #[.int]
  staticTypes := #[(.object "java/time/Duration"), (.object "java/time/Duration"), .int]
  resolved := Array.replicate 81 none
  statics := some 0 }

def pool3 : Array CpInfo := pool [(1, .class_ 2), (0, u "java/lang/Math"), (1, .class_ 6), (1, u "java/lang/Object"), (0, u "<init>"), (0, u "()V"), (89, .class_ 100), (1, u "java/lang/Math$RandomNumberGeneratorHolder"), (20, u "(JJ)J"), (2, u "abs"), (0, u "(J)J"), (19, u "floorDiv"), (2, u "floorMod"), (23, u "negativeZeroFloatBits"), (0, u "J"), (2, u "negativeZeroDoubleBits"), (24, u "min"), (43, u "$assertionsDisabled"), (0, u "Z"), (88, u "(II)I"), (2, u "twoToTheDoubleScaleDown"), (0, u "D"), (4, u "twoToTheDoubleScaleUp"), (9, u "E"), (3, u "PI"), (2, u "TAU"), (2, u "DEGREES_TO_RADIANS"), (0, u "RADIANS_TO_DEGREES"), (27, u "addExact")] 66

def k3m0 : Method := { name := "<init>", desc := "()V", sig := { parameters := [], returnType := none }, accessFlags := 2, code := none }
def k3c1 : Code := { maxStack := 6, maxLocals := 6, code := jdk_29_method_25_code, exceptionTable := #[], attributes := #[] }
def k3m1 : Method := { name := "addExact", desc := "(JJ)J", sig := { parameters := [.long, .long], returnType := some .long }, accessFlags := 9, code := some k3c1 }
def k3c2 : Code := { maxStack := 4, maxLocals := 6, code := jdk_29_method_49_code, exceptionTable := #[], attributes := #[] }
def k3m2 : Method := { name := "floorDiv", desc := "(JJ)J", sig := { parameters := [.long, .long], returnType := some .long }, accessFlags := 9, code := some k3c2 }
def k3c3 : Code := { maxStack := 4, maxLocals := 6, code := jdk_29_method_52_code, exceptionTable := #[], attributes := #[] }
def k3m3 : Method := { name := "floorMod", desc := "(JJ)J", sig := { parameters := [.long, .long], returnType := some .long }, accessFlags := 9, code := some k3c3 }
def k3c4 : Code := { maxStack := 4, maxLocals := 2, code := jdk_29_method_61_code, exceptionTable := #[], attributes := #[] }
def k3m4 : Method := { name := "abs", desc := "(J)J", sig := { parameters := [.long], returnType := some .long }, accessFlags := 9, code := some k3c4 }
def k3c5 : Code := { maxStack := 2, maxLocals := 2, code := jdk_29_method_69_code, exceptionTable := #[], attributes := #[] }
def k3m5 : Method := { name := "min", desc := "(II)I", sig := { parameters := [.int, .int], returnType := some .int }, accessFlags := 9, code := some k3c5 }
/-- java/lang/Math -/
def k3 : Class := { plain "java/lang/Math" (some 0) with
  accessFlags := 49
  interfaces := #[]
  cf := some (fileOf pool3 1 #[.nestMembers #[98]] #[⟨2, 7, 8, #[]⟩, ⟨9, 393, 121, #[]⟩, ⟨9, 145, 121, #[]⟩, ⟨9, 148, 121, #[]⟩, ⟨9, 124, 125, #[]⟩, ⟨9, 201, 335, #[]⟩] 49 4 #[] #[⟨25, 354, 339, #[]⟩, ⟨25, 358, 339, #[]⟩, ⟨25, 361, 339, #[]⟩, ⟨26, 364, 339, #[]⟩, ⟨26, 365, 339, #[]⟩, ⟨26, 172, 173, #[]⟩, ⟨26, 176, 173, #[]⟩, ⟨8, 344, 339, #[]⟩, ⟨8, 338, 339, #[]⟩, ⟨4120, 245, 246, #[]⟩])
  fields := #[⟨"E", .double, 25, 0, 0⟩, ⟨"PI", .double, 25, 1, 0⟩, ⟨"TAU", .double, 25, 2, 0⟩, ⟨"DEGREES_TO_RADIANS", .double, 26, 3, 0⟩, ⟨"RADIANS_TO_DEGREES", .double, 26, 4, 0⟩, ⟨"negativeZeroFloatBits", .long, 26, 5, 0⟩, ⟨"negativeZeroDoubleBits", .long, 26, 6, 0⟩, ⟨"twoToTheDoubleScaleUp", .double, 8, 7, 0⟩, ⟨"twoToTheDoubleScaleDown", .double, 8, 8, 0⟩, ⟨"$assertionsDisabled", .boolean, 4120, 9, 0⟩]
  methods := #[k3m0, k3m1, k3m2, k3m3, k3m4, k3m5]
  instanceTypes := #[]
  staticTypes := #[.double, .double, .double, .double, .double, .long, .long, .double, .double, .boolean]
  resolved := Array.replicate 460 none
  statics := none }

def pool4 : Array CpInfo := pool [(1, .class_ 2), (0, u "java/time/temporal/TemporalAmount"), (0, .class_ 4), (0, u "java/lang/Object")] 11

/-- java/time/temporal/TemporalAmount -/
def k4 : Class := { plain "java/time/temporal/TemporalAmount" (some 0) with
  accessFlags := 1537
  interfaces := #[]
  cf := some (fileOf pool4 1 #[] #[] 1537 3 #[] #[])
  fields := #[]
  methods := #[]
  instanceTypes := #[]
  staticTypes := #[]
  resolved := Array.replicate 16 none
  statics := none }

def pool5 : Array CpInfo := pool [(1, .class_ 2), (0, u "java/lang/Comparable"), (0, .class_ 4), (0, u "java/lang/Object")] 7

/-- java/lang/Comparable -/
def k5 : Class := { plain "java/lang/Comparable" (some 0) with
  accessFlags := 1537
  interfaces := #[]
  cf := some (fileOf pool5 1 #[] #[] 1537 3 #[] #[])
  fields := #[]
  methods := #[]
  instanceTypes := #[]
  staticTypes := #[]
  resolved := Array.replicate 12 none
  statics := none }

def pool6 : Array CpInfo := pool [(1, .class_ 2), (0, u "java/io/Serializable"), (0, .class_ 4), (0, u "java/lang/Object")] 2

/-- java/io/Serializable -/
def k6 : Class := { plain "java/io/Serializable" (some 0) with
  accessFlags := 1537
  interfaces := #[]
  cf := some (fileOf pool6 1 #[] #[] 1537 3 #[] #[])
  fields := #[]
  methods := #[]
  instanceTypes := #[]
  staticTypes := #[]
  resolved := Array.replicate 7 none
  statics := none }

def pool7 : Array CpInfo := pool [(5, .class_ 7), (1, u "java/lang/Math"), (2, .methodref 11 12), (0, .class_ 13), (0, .nameAndType 14 15), (0, u "java/time/Duration"), (0, u "create"), (0, u "(JI)Ljava/time/Duration;"), (0, .long 1000000000), (1, .methodref 5 19), (0, .nameAndType 20 21), (0, u "floorDiv"), (0, u "(JJ)J"), (0, .methodref 5 23), (0, .nameAndType 24 21), (0, u "addExact"), (0, .methodref 5 26), (0, .nameAndType 27 21), (0, u "floorMod"), (6, u "ZERO"), (0, u "Ljava/time/Duration;"), (13, .class_ 51), (1, u "java/time/temporal/TemporalAmount"), (27, .class_ 81), (1, u "java/time/Duration$Lazy"), (35, u "seconds"), (21, u "<init>"), (7, .class_ 149), (1, u "java/lang/Long"), (7, .nameAndType 139 158), (0, u "()V"), (17, .methodref 11 177), (0, .nameAndType 178 179), (0, u "ofSeconds"), (0, u "(JJ)Ljava/time/Duration;"), (19, u "(J)Ljava/time/Duration;"), (15, .methodref 11 216), (0, .nameAndType 139 217), (0, u "(JI)V"), (0, .methodref 219 157), (0, .class_ 220), (0, u "java/lang/Object"), (0, .fieldref 11 222), (0, .nameAndType 117 223), (0, u "J"), (0, .fieldref 11 225), (0, .nameAndType 226 227), (0, u "nanos"), (0, u "I"), (11, .class_ 241), (1, u "java/time/Duration$DurationUnits"), (8, u "getSeconds"), (0, u "()J"), (2, u "getNano"), (0, u "()I"), (13, .class_ 271), (1, u "java/time/Duration$1"), (21, u "multipliedBy"), (15, .methodref 11 310), (0, .nameAndType 311 312), (0, u "toBigDecimalSeconds"), (0, u "()Ljava/math/BigDecimal;"), (0, .methodref 314 315), (0, .class_ 316), (0, .nameAndType 317 318), (0, u "java/math/BigDecimal"), (0, u "valueOf"), (0, u "(J)Ljava/math/BigDecimal;"), (0, .methodref 314 320), (0, .nameAndType 321 322), (0, u "multiply"), (0, u "(Ljava/math/BigDecimal;)Ljava/math/BigDecimal;"), (0, .methodref 11 324), (0, .nameAndType 14 325), (0, u "(Ljava/math/BigDecimal;)Ljava/time/Duration;"), (21, .methodref 314 348), (0, .nameAndType 317 349), (0, u "(JI)Ljava/math/BigDecimal;"), (0, .methodref 314 351), (0, .nameAndType 352 322), (0, u "add"), (0, .methodref 314 354), (0, .nameAndType 355 356), (0, u "movePointRight"), (0, u "(I)Ljava/math/BigDecimal;"), (0, .methodref 314 358), (0, .nameAndType 359 360), (0, u "toBigIntegerExact"), (0, u "()Ljava/math/BigInteger;"), (0, .fieldref 11 362), (0, .nameAndType 363 364), (0, u "BI_NANOS_PER_SECOND"), (0, u "Ljava/math/BigInteger;"), (0, .methodref 366 367), (0, .class_ 368), (0, .nameAndType 369 370), (0, u "java/math/BigInteger"), (0, u "divideAndRemainder"), (0, u "(Ljava/math/BigInteger;)[Ljava/math/BigInteger;"), (0, .methodref 366 372), (0, .nameAndType 373 255), (0, u "bitLength"), (2, .methodref 366 377), (0, .nameAndType 378 251), (0, u "longValue"), (0, .methodref 366 380), (0, .nameAndType 381 255), (0, u "intValue"), (34, .methodref 147 417), (0, .nameAndType 418 419), (0, u "compare"), (0, u "(JJ)I"), (60, u "compareTo"), (0, u "(Ljava/time/Duration;)I"), (3, .class_ 486), (0, u "java/lang/Comparable"), (0, .class_ 488), (0, u "java/io/Serializable"), (0, u "serialVersionUID")] 166

def k7c0 : Code := { maxStack := 6, maxLocals := 7, code := jdk_2316_method_5_code, exceptionTable := #[], attributes := #[] }
def k7m0 : Method := { name := "ofSeconds", desc := "(JJ)Ljava/time/Duration;", sig := { parameters := [.long, .long], returnType := some (.object "java/time/Duration") }, accessFlags := 9, code := some k7c0 }
def k7c1 : Code := { maxStack := 5, maxLocals := 3, code := jdk_2316_method_16_code, exceptionTable := #[], attributes := #[] }
def k7m1 : Method := { name := "create", desc := "(JI)Ljava/time/Duration;", sig := { parameters := [.long, .int], returnType := some (.object "java/time/Duration") }, accessFlags := 10, code := some k7c1 }
def k7c2 : Code := { maxStack := 3, maxLocals := 4, code := jdk_2316_method_17_code, exceptionTable := #[], attributes := #[] }
def k7m2 : Method := { name := "<init>", desc := "(JI)V", sig := { parameters := [.long, .int], returnType := none }, accessFlags := 2, code := some k7c2 }
def k7c3 : Code := { maxStack := 2, maxLocals := 1, code := jdk_2316_method_23_code, exceptionTable := #[], attributes := #[] }
def k7m3 : Method := { name := "getSeconds", desc := "()J", sig := { parameters := [], returnType := some .long }, accessFlags := 1, code := some k7c3 }
def k7c4 : Code := { maxStack := 1, maxLocals := 1, code := jdk_2316_method_24_code, exceptionTable := #[], attributes := #[] }
def k7m4 : Method := { name := "getNano", desc := "()I", sig := { parameters := [], returnType := some .int }, accessFlags := 1, code := some k7c4 }
def k7c5 : Code := { maxStack := 4, maxLocals := 3, code := jdk_2316_method_44_code, exceptionTable := #[], attributes := #[] }
def k7m5 : Method := { name := "multipliedBy", desc := "(J)Ljava/time/Duration;", sig := { parameters := [.long], returnType := some (.object "java/time/Duration") }, accessFlags := 1, code := some k7c5 }
def k7c6 : Code := { maxStack := 4, maxLocals := 1, code := jdk_2316_method_47_code, exceptionTable := #[], attributes := #[] }
def k7m6 : Method := { name := "toBigDecimalSeconds", desc := "()Ljava/math/BigDecimal;", sig := { parameters := [], returnType := some (.object "java/math/BigDecimal") }, accessFlags := 2, code := some k7c6 }
def k7c7 : Code := { maxStack := 4, maxLocals := 3, code := jdk_2316_method_48_code, exceptionTable := #[], attributes := #[] }
def k7m7 : Method := { name := "create", desc := "(Ljava/math/BigDecimal;)Ljava/time/Duration;", sig := { parameters := [(.object "java/math/BigDecimal")], returnType := some (.object "java/time/Duration") }, accessFlags := 10, code := some k7c7 }
def k7c8 : Code := { maxStack := 4, maxLocals := 3, code := jdk_2316_method_66_code, exceptionTable := #[], attributes := #[] }
def k7m8 : Method := { name := "compareTo", desc := "(Ljava/time/Duration;)I", sig := { parameters := [(.object "java/time/Duration")], returnType := some .int }, accessFlags := 1, code := some k7c8 }
/-- java/time/Duration -/
def k7 : Class := { plain "java/time/Duration" (some 0) with
  accessFlags := 49
  interfaces := #[4, 5, 6]
  cf := some (fileOf pool7 11 #[.nestMembers #[269, 239, 79]] #[⟨9, 178, 179, #[]⟩, ⟨10, 14, 15, #[]⟩, ⟨2, 139, 217, #[]⟩, ⟨1, 250, 251, #[]⟩, ⟨1, 254, 255, #[]⟩, ⟨1, 293, 199, #[]⟩, ⟨2, 311, 312, #[]⟩, ⟨10, 14, 325, #[]⟩, ⟨1, 480, 481, #[]⟩] 49 219 #[49, 485, 487] #[⟨25, 34, 35, #[]⟩, ⟨26, 489, 223, #[]⟩, ⟨26, 363, 364, #[]⟩, ⟨18, 117, 223, #[]⟩, ⟨18, 226, 227, #[]⟩])
  fields := #[⟨"ZERO", (.object "java/time/Duration"), 25, 0, 0⟩, ⟨"serialVersionUID", .long, 26, 1, 0⟩, ⟨"BI_NANOS_PER_SECOND", (.object "java/math/BigInteger"), 26, 2, 0⟩, ⟨"seconds", .long, 18, 0, 0⟩, ⟨"nanos", .int, 18, 1, 0⟩]
  methods := #[k7m0, k7m1, k7m2, k7m3, k7m4, k7m5, k7m6, k7m7, k7m8]
  instanceTypes := #[.long, .int]
  staticTypes := #[(.object "java/time/Duration"), .long, (.object "java/math/BigInteger")]
  resolved := Array.replicate 656 none
  statics := some 1 }

def pool8 : Array CpInfo := pool [(1, .methodref 2 3), (0, .class_ 4), (0, .nameAndType 5 6), (0, u "java/lang/Object"), (0, u "<init>"), (0, u "()V"), (1, .class_ 10), (1, u "java/lang/Number"), (2, .class_ 14), (0, u "java/io/Serializable"), (0, u "serialVersionUID"), (0, u "J")] 20

def k8c0 : Code := { maxStack := 1, maxLocals := 1, code := jdk_18_method_1_code, exceptionTable := #[], attributes := #[] }
def k8m0 : Method := { name := "<init>", desc := "()V", sig := { parameters := [], returnType := none }, accessFlags := 1, code := some k8c0 }
/-- java/lang/Number -/
def k8 : Class := { plain "java/lang/Number" (some 0) with
  accessFlags := 1057
  interfaces := #[6]
  cf := some (fileOf pool8 8 #[] #[⟨1, 5, 6, #[]⟩] 1057 2 #[13] #[⟨26, 15, 16, #[]⟩])
  fields := #[⟨"serialVersionUID", .long, 26, 0, 0⟩]
  methods := #[k8m0]
  instanceTypes := #[]
  staticTypes := #[.long]
  resolved := Array.replicate 37 none
  statics := none }

def pool9 : Array CpInfo := pool [(1, .class_ 2), (0, u "java/lang/constant/Constable"), (0, .class_ 4), (0, u "java/lang/Object")] 6

/-- java/lang/constant/Constable -/
def k9 : Class := { plain "java/lang/constant/Constable" (some 0) with
  accessFlags := 1537
  interfaces := #[]
  cf := some (fileOf pool9 1 #[] #[] 1537 3 #[] #[])
  fields := #[]
  methods := #[]
  instanceTypes := #[]
  staticTypes := #[]
  resolved := Array.replicate 11 none
  statics := none }

def pool10 : Array CpInfo := pool [(1, .class_ 2), (0, u "java/lang/constant/ConstantDesc"), (0, .class_ 4), (0, u "java/lang/Object")] 32

/-- java/lang/constant/ConstantDesc -/
def k10 : Class := { plain "java/lang/constant/ConstantDesc" (some 0) with
  accessFlags := 1537
  interfaces := #[]
  cf := some (fileOf pool10 1 #[] #[] 1537 3 #[] #[])
  fields := #[]
  methods := #[]
  instanceTypes := #[]
  staticTypes := #[]
  resolved := Array.replicate 37 none
  statics := none }

def pool11 : Array CpInfo := pool [(1, .class_ 2), (0, u "java/lang/Long"), (232, .class_ 237), (1, u "java/lang/Long$LongCache"), (33, .class_ 272), (0, u "java/lang/Number"), (2, u "value"), (0, u "J"), (27, u "compare"), (0, u "(JJ)I"), (55, u "TYPE"), (0, u "Ljava/lang/Class;"), (0, .class_ 364), (0, u "java/lang/Comparable"), (0, .class_ 366), (0, u "java/lang/constant/Constable"), (0, .class_ 368), (0, u "java/lang/constant/ConstantDesc"), (0, u "MIN_VALUE"), (1, u "MAX_VALUE"), (4, u "SIZE"), (0, u "I"), (1, u "BYTES"), (1, u "serialVersionUID")] 142

def k11c0 : Code := { maxStack := 4, maxLocals := 4, code := jdk_35_method_42_code, exceptionTable := #[], attributes := #[] }
def k11m0 : Method := { name := "compare", desc := "(JJ)I", sig := { parameters := [.long, .long], returnType := some .int }, accessFlags := 9, code := some k11c0 }
/-- java/lang/Long -/
def k11 : Class := { plain "java/lang/Long" (some 8) with
  accessFlags := 49
  interfaces := #[5, 9, 10]
  cf := some (fileOf pool11 1 #[.nestMembers #[235]] #[⟨9, 304, 305, #[]⟩] 49 271 #[363, 365, 367] #[⟨25, 369, 276, #[]⟩, ⟨25, 371, 276, #[]⟩, ⟨25, 361, 362, #[]⟩, ⟨18, 275, 276, #[]⟩, ⟨25, 376, 377, #[]⟩, ⟨25, 379, 377, #[]⟩, ⟨26, 381, 276, #[]⟩])
  fields := #[⟨"MIN_VALUE", .long, 25, 0, 0⟩, ⟨"MAX_VALUE", .long, 25, 1, 0⟩, ⟨"TYPE", (.object "java/lang/Class"), 25, 2, 0⟩, ⟨"value", .long, 18, 0, 0⟩, ⟨"SIZE", .int, 25, 3, 0⟩, ⟨"BYTES", .int, 25, 4, 0⟩, ⟨"serialVersionUID", .long, 26, 5, 0⟩]
  methods := #[k11m0]
  instanceTypes := #[.long]
  staticTypes := #[.long, .long, (.object "java/lang/Class"), .int, .int, .long]
  resolved := Array.replicate 524 none
  statics := none }

def pool12 : Array CpInfo := pool [(3, .class_ 4), (0, u "java/math/BigDecimal"), (4, .class_ 10), (0, u "java/math/BigInteger"), (0, .methodref 12 13), (0, .class_ 14), (0, .nameAndType 15 16), (0, u "java/lang/Number"), (0, u "<init>"), (0, u "()V"), (0, .fieldref 3 18), (0, .nameAndType 19 20), (0, u "scale"), (0, u "I"), (0, .fieldref 3 22), (0, .nameAndType 23 20), (0, u "precision"), (0, .fieldref 3 25), (0, .nameAndType 26 27), (0, u "intCompact"), (0, u "J"), (0, .fieldref 3 29), (0, .nameAndType 30 31), (0, u "intVal"), (0, u "Ljava/math/BigInteger;"), (63, .fieldref 3 96), (0, .nameAndType 97 98), (0, u "LONG_TEN_POWERS_TABLE"), (0, u "[J"), (16, u "(J)I"), (9, .long 9223372036854775808), (61, u "ZERO"), (2, u "INFLATED_BIGINT"), (2, .methodref 9 194), (0, .nameAndType 195 196), (0, u "valueOf"), (0, u "(J)Ljava/math/BigInteger;"), (6, u "multiply"), (2, u "TWO"), (31, u "(J)Ljava/math/BigDecimal;"), (0, .methodref 3 240), (0, .nameAndType 241 242), (0, u "zeroValueOf"), (0, u "(I)Ljava/math/BigDecimal;"), (0, .methodref 3 244), (0, .nameAndType 15 245), (0, u "(Ljava/math/BigInteger;JII)V"), (0, .fieldref 3 247), (0, .nameAndType 248 249), (0, u "ZERO_THROUGH_TEN"), (0, u "[Ljava/math/BigDecimal;"), (0, .fieldref 3 251), (0, .nameAndType 252 249), (0, u "ZERO_SCALED_BY"), (4, .methodref 3 258), (0, .nameAndType 259 260), (0, u "add"), (0, u "(JIJI)Ljava/math/BigDecimal;"), (8, u "(Ljava/math/BigDecimal;)Ljava/math/BigDecimal;"), (6, .class_ 278), (1, u "java/lang/Math"), (14, u "setScale"), (8, .methodref 3 303), (0, .nameAndType 304 305), (0, u "inflated"), (0, u "()Ljava/math/BigInteger;"), (7, u "$assertionsDisabled"), (0, u "Z"), (7, u "(JJ)J"), (2, .methodref 3 326), (0, .nameAndType 327 115), (0, u "checkScale"), (0, .methodref 3 329), (0, .nameAndType 195 330), (0, u "(JI)Ljava/math/BigDecimal;"), (11, .methodref 3 343), (0, .nameAndType 203 344), (0, u "(JJI)Ljava/math/BigDecimal;"), (74, .methodref 3 420), (0, .nameAndType 293 421), (0, u "(II)Ljava/math/BigDecimal;"), (18, .methodref 276 441), (0, .nameAndType 442 443), (0, u "abs"), (0, u "(J)J"), (34, u "ONE_TENTH"), (0, u "Ljava/math/BigDecimal;"), (5, u "TEN"), (14, .class_ 502), (1, u "java/math/BigDecimal$1"), (15, u "ONE_HALF"), (16, u "ONE"), (63, .methodref 3 600), (0, .nameAndType 601 602), (0, u "longMultiplyPowerTen"), (0, u "(JI)J"), (32, u "(JJ)I"), (7, u "stringCache"), (0, u "Ljava/lang/String;"), (52, .class_ 699), (1, u "java/math/BigDecimal$LongOverflow"), (8, u "FLOAT_10_POW"), (0, u "[F"), (39, u "DOUBLE_10_POW"), (0, u "[D"), (19, .class_ 772), (1, u "java/math/BigDecimal$StringBuilderHelper"), (35, u "BIG_TEN_POWERS_TABLE_MAX"), (2, u "BIG_TEN_POWERS_TABLE"), (0, u "[Ljava/math/BigInteger;"), (12, .fieldref 3 826), (0, .nameAndType 827 98), (0, u "THRESHOLDS_TABLE"), (23, .class_ 853), (1, u "java/math/BigDecimal$UnsafeHolder"), (140, .methodref 3 995), (0, .nameAndType 327 635), (0, .methodref 3 997), (0, .nameAndType 259 322), (2, .methodref 3 1001), (0, .nameAndType 259 344), (53, .methodref 3 1056), (0, .nameAndType 203 322), (11, u "LONGLONG_TEN_POWERS_TABLE"), (0, u "[[J"), (112, u "BIG_TEN_POWERS_TABLE_INITLEN"), (113, .class_ 1297), (0, u "java/lang/Comparable"), (0, u "L"), (0, u "D"), (1, u "P_F"), (1, u "Q_MIN_F"), (1, u "Q_MAX_F"), (1, u "P_D"), (1, u "Q_MIN_D"), (1, u "Q_MAX_D"), (1, u "INFLATED"), (0, u "MAX_COMPACT_DIGITS"), (1, u "serialVersionUID"), (2, u "HALF_LONG_MAX_VALUE"), (0, u "HALF_LONG_MIN_VALUE"), (0, u "ROUND_UP"), (6, u "ROUND_DOWN"), (1, u "ROUND_CEILING"), (1, u "ROUND_FLOOR"), (1, u "ROUND_HALF_UP"), (1, u "ROUND_HALF_DOWN"), (1, u "ROUND_HALF_EVEN"), (1, u "ROUND_UNNECESSARY"), (1, u "DIV_NUM_BASE"), (116, u "movePointRight"), (22, u "toBigIntegerExact")] 154

def k12c0 : Code := { maxStack := 3, maxLocals := 6, code := jdk_17_method_1_code, exceptionTable := #[], attributes := #[] }
def k12m0 : Method := { name := "<init>", desc := "(Ljava/math/BigInteger;JII)V", sig := { parameters := [(.object "java/math/BigInteger"), .long, .int, .int], returnType := none }, accessFlags := 0, code := some k12c0 }
def k12c1 : Code := { maxStack := 7, maxLocals := 3, code := jdk_17_method_20_code, exceptionTable := #[], attributes := #[] }
def k12m1 : Method := { name := "valueOf", desc := "(JI)Ljava/math/BigDecimal;", sig := { parameters := [.long, .int], returnType := some (.object "java/math/BigDecimal") }, accessFlags := 9, code := some k12c1 }
def k12c2 : Code := { maxStack := 7, maxLocals := 2, code := jdk_17_method_21_code, exceptionTable := #[], attributes := #[] }
def k12m2 : Method := { name := "valueOf", desc := "(J)Ljava/math/BigDecimal;", sig := { parameters := [.long], returnType := some (.object "java/math/BigDecimal") }, accessFlags := 9, code := some k12c2 }
def k12c3 : Code := { maxStack := 7, maxLocals := 1, code := jdk_17_method_24_code, exceptionTable := #[], attributes := #[] }
def k12m3 : Method := { name := "zeroValueOf", desc := "(I)Ljava/math/BigDecimal;", sig := { parameters := [.int], returnType := some (.object "java/math/BigDecimal") }, accessFlags := 8, code := some k12c3 }
def k12c4 : Code := { maxStack := 6, maxLocals := 2, code := jdk_17_method_26_code, exceptionTable := #[], attributes := #[] }
def k12m4 : Method := { name := "add", desc := "(Ljava/math/BigDecimal;)Ljava/math/BigDecimal;", sig := { parameters := [(.object "java/math/BigDecimal")], returnType := some (.object "java/math/BigDecimal") }, accessFlags := 1, code := some k12c4 }
def k12c5 : Code := { maxStack := 5, maxLocals := 3, code := jdk_17_method_31_code, exceptionTable := #[], attributes := #[] }
def k12m5 : Method := { name := "multiply", desc := "(Ljava/math/BigDecimal;)Ljava/math/BigDecimal;", sig := { parameters := [(.object "java/math/BigDecimal")], returnType := some (.object "java/math/BigDecimal") }, accessFlags := 1, code := some k12c5 }
def k12c6 : Code := { maxStack := 8, maxLocals := 8, code := jdk_17_method_64_code, exceptionTable := #[], attributes := #[] }
def k12m6 : Method := { name := "setScale", desc := "(II)Ljava/math/BigDecimal;", sig := { parameters := [.int, .int], returnType := some (.object "java/math/BigDecimal") }, accessFlags := 1, code := some k12c6 }
def k12c7 : Code := { maxStack := 7, maxLocals := 4, code := jdk_17_method_67_code, exceptionTable := #[], attributes := #[] }
def k12m7 : Method := { name := "movePointRight", desc := "(I)Ljava/math/BigDecimal;", sig := { parameters := [.int], returnType := some (.object "java/math/BigDecimal") }, accessFlags := 1, code := some k12c7 }
def k12c8 : Code := { maxStack := 3, maxLocals := 1, code := jdk_17_method_81_code, exceptionTable := #[], attributes := #[] }
def k12m8 : Method := { name := "toBigIntegerExact", desc := "()Ljava/math/BigInteger;", sig := { parameters := [], returnType := some (.object "java/math/BigInteger") }, accessFlags := 1, code := some k12c8 }
def k12c9 : Code := { maxStack := 4, maxLocals := 7, code := jdk_17_method_97_code, exceptionTable := #[], attributes := #[] }
def k12m9 : Method := { name := "longMultiplyPowerTen", desc := "(JI)J", sig := { parameters := [.long, .int], returnType := some .long }, accessFlags := 10, code := some k12c9 }
def k12c10 : Code := { maxStack := 2, maxLocals := 1, code := jdk_17_method_99_code, exceptionTable := #[], attributes := #[] }
def k12m10 : Method := { name := "inflated", desc := "()Ljava/math/BigInteger;", sig := { parameters := [], returnType := some (.object "java/math/BigInteger") }, accessFlags := 2, code := some k12c10 }
def k12c11 : Code := { maxStack := 4, maxLocals := 5, code := jdk_17_method_106_code, exceptionTable := #[], attributes := #[] }
def k12m11 : Method := { name := "checkScale", desc := "(J)I", sig := { parameters := [.long], returnType := some .int }, accessFlags := 2, code := some k12c11 }
def k12c12 : Code := { maxStack := 4, maxLocals := 5, code := jdk_17_method_113_code, exceptionTable := #[], attributes := #[] }
def k12m12 : Method := { name := "checkScale", desc := "(JJ)I", sig := { parameters := [.long, .long], returnType := some .int }, accessFlags := 10, code := some k12c12 }
def k12c13 : Code := { maxStack := 6, maxLocals := 6, code := jdk_17_method_132_code, exceptionTable := #[], attributes := #[] }
def k12m13 : Method := { name := "add", desc := "(JJ)J", sig := { parameters := [.long, .long], returnType := some .long }, accessFlags := 10, code := some k12c13 }
def k12c14 : Code := { maxStack := 5, maxLocals := 7, code := jdk_17_method_133_code, exceptionTable := #[], attributes := #[] }
def k12m14 : Method := { name := "add", desc := "(JJI)Ljava/math/BigDecimal;", sig := { parameters := [.long, .long, .int], returnType := some (.object "java/math/BigDecimal") }, accessFlags := 10, code := some k12c14 }
def k12c15 : Code := { maxStack := 7, maxLocals := 12, code := jdk_17_method_134_code, exceptionTable := #[], attributes := #[] }
def k12m15 : Method := { name := "add", desc := "(JIJI)Ljava/math/BigDecimal;", sig := { parameters := [.long, .int, .long, .int], returnType := some (.object "java/math/BigDecimal") }, accessFlags := 10, code := some k12c15 }
def k12c16 : Code := { maxStack := 4, maxLocals := 10, code := jdk_17_method_156_code, exceptionTable := #[], attributes := #[] }
def k12m16 : Method := { name := "multiply", desc := "(JJ)J", sig := { parameters := [.long, .long], returnType := some .long }, accessFlags := 10, code := some k12c16 }
def k12c17 : Code := { maxStack := 7, maxLocals := 7, code := jdk_17_method_157_code, exceptionTable := #[], attributes := #[] }
def k12m17 : Method := { name := "multiply", desc := "(JJI)Ljava/math/BigDecimal;", sig := { parameters := [.long, .long, .int], returnType := some (.object "java/math/BigDecimal") }, accessFlags := 10, code := some k12c17 }
/-- java/math/BigDecimal -/
def k12 : Class := { plain "java/math/BigDecimal" (some 8) with
  accessFlags := 33
  interfaces := #[5]
  cf := some (fileOf pool12 3 #[.nestMembers #[500, 851, 770, 697]] #[⟨0, 15, 245, #[]⟩, ⟨9, 195, 330, #[]⟩, ⟨9, 195, 238, #[]⟩, ⟨8, 241, 242, #[]⟩, ⟨1, 259, 269, #[]⟩, ⟨1, 203, 269, #[]⟩, ⟨1, 293, 421, #[]⟩, ⟨1, 1459, 242, #[]⟩, ⟨1, 1482, 305, #[]⟩, ⟨10, 601, 602, #[]⟩, ⟨2, 304, 305, #[]⟩, ⟨2, 327, 115, #[]⟩, ⟨10, 327, 635, #[]⟩, ⟨10, 259, 322, #[]⟩, ⟨10, 259, 344, #[]⟩, ⟨10, 259, 260, #[]⟩, ⟨10, 203, 322, #[]⟩, ⟨10, 203, 344, #[]⟩] 33 12 #[1296] #[⟨26, 1298, 1299, #[]⟩, ⟨26, 1301, 20, #[]⟩, ⟨26, 1303, 20, #[]⟩, ⟨26, 1305, 20, #[]⟩, ⟨26, 1307, 20, #[]⟩, ⟨26, 1309, 20, #[]⟩, ⟨26, 1311, 20, #[]⟩, ⟨18, 30, 31, #[]⟩, ⟨18, 19, 20, #[]⟩, ⟨130, 23, 20, #[]⟩, ⟨130, 643, 644, #[]⟩, ⟨24, 1313, 27, #[]⟩, ⟨26, 190, 31, #[]⟩, ⟨146, 26, 27, #[]⟩, ⟨26, 1314, 20, #[]⟩, ⟨26, 1316, 27, #[]⟩, ⟨26, 248, 249, #[]⟩, ⟨26, 252, 249, #[]⟩, ⟨26, 1319, 27, #[]⟩, ⟨26, 1320, 27, #[]⟩, ⟨25, 187, 479, #[]⟩, ⟨25, 535, 479, #[]⟩, ⟨25, 206, 479, #[]⟩, ⟨25, 485, 479, #[]⟩, ⟨26, 478, 479, #[]⟩, ⟨26, 518, 479, #[]⟩, ⟨25, 1321, 20, #[]⟩, ⟨25, 1328, 20, #[]⟩, ⟨25, 1330, 20, #[]⟩, ⟨25, 1332, 20, #[]⟩, ⟨25, 1334, 20, #[]⟩, ⟨25, 1336, 20, #[]⟩, ⟨25, 1338, 20, #[]⟩, ⟨25, 1340, 20, #[]⟩, ⟨26, 749, 750, #[]⟩, ⟨26, 708, 709, #[]⟩, ⟨26, 97, 98, #[]⟩, ⟨74, 811, 812, #[]⟩, ⟨26, 1182, 20, #[]⟩, ⟨26, 808, 20, #[]⟩, ⟨26, 827, 98, #[]⟩, ⟨26, 1342, 27, #[]⟩, ⟨26, 1068, 1069, #[]⟩, ⟨4120, 313, 314, #[]⟩])
  fields := #[⟨"L", .double, 26, 0, 0⟩, ⟨"P_F", .int, 26, 1, 0⟩, ⟨"Q_MIN_F", .int, 26, 2, 0⟩, ⟨"Q_MAX_F", .int, 26, 3, 0⟩, ⟨"P_D", .int, 26, 4, 0⟩, ⟨"Q_MIN_D", .int, 26, 5, 0⟩, ⟨"Q_MAX_D", .int, 26, 6, 0⟩, ⟨"intVal", (.object "java/math/BigInteger"), 18, 0, 0⟩, ⟨"scale", .int, 18, 1, 0⟩, ⟨"precision", .int, 130, 2, 0⟩, ⟨"stringCache", (.object "java/lang/String"), 130, 3, 0⟩, ⟨"INFLATED", .long, 24, 7, 0⟩, ⟨"INFLATED_BIGINT", (.object "java/math/BigInteger"), 26, 8, 0⟩, ⟨"intCompact", .long, 146, 4, 0⟩, ⟨"MAX_COMPACT_DIGITS", .int, 26, 9, 0⟩, ⟨"serialVersionUID", .long, 26, 10, 0⟩, ⟨"ZERO_THROUGH_TEN", (.array (.object "java/math/BigDecimal")), 26, 11, 0⟩, ⟨"ZERO_SCALED_BY", (.array (.object "java/math/BigDecimal")), 26, 12, 0⟩, ⟨"HALF_LONG_MAX_VALUE", .long, 26, 13, 0⟩, ⟨"HALF_LONG_MIN_VALUE", .long, 26, 14, 0⟩, ⟨"ZERO", (.object "java/math/BigDecimal"), 25, 15, 0⟩, ⟨"ONE", (.object "java/math/BigDecimal"), 25, 16, 0⟩, ⟨"TWO", (.object "java/math/BigDecimal"), 25, 17, 0⟩, ⟨"TEN", (.object "java/math/BigDecimal"), 25, 18, 0⟩, ⟨"ONE_TENTH", (.object "java/math/BigDecimal"), 26, 19, 0⟩, ⟨"ONE_HALF", (.object "java/math/BigDecimal"), 26, 20, 0⟩, ⟨"ROUND_UP", .int, 25, 21, 0⟩, ⟨"ROUND_DOWN", .int, 25, 22, 0⟩, ⟨"ROUND_CEILING", .int, 25, 23, 0⟩, ⟨"ROUND_FLOOR", .int, 25, 24, 0⟩, ⟨"ROUND_HALF_UP", .int, 25, 25, 0⟩, ⟨"ROUND_HALF_DOWN", .int, 25, 26, 0⟩, ⟨"ROUND_HALF_EVEN", .int, 25, 27, 0⟩, ⟨"ROUND_UNNECESSARY", .int, 25, 28, 0⟩, ⟨"DOUBLE_10_POW", (.array .double), 26, 29, 0⟩, ⟨"FLOAT_10_POW", (.array .float), 26, 30, 0⟩, ⟨"LONG_TEN_POWERS_TABLE", (.array .long), 26, 31, 0⟩, ⟨"BIG_TEN_POWERS_TABLE", (.array (.object "java/math/BigInteger")), 74, 32, 0⟩, ⟨"BIG_TEN_POWERS_TABLE_INITLEN", .int, 26, 33, 0⟩, ⟨"BIG_TEN_POWERS_TABLE_MAX", .int, 26, 34, 0⟩, ⟨"THRESHOLDS_TABLE", (.array .long), 26, 35, 0⟩, ⟨"DIV_NUM_BASE", .long, 26, 36, 0⟩, ⟨"LONGLONG_TEN_POWERS_TABLE", (.array (.array .long)), 26, 37, 0⟩, ⟨"$assertionsDisabled", .boolean, 4120, 38, 0⟩]
  methods := #[k12m0, k12m1, k12m2, k12m3, k12m4, k12m5, k12m6, k12m7, k12m8, k12m9, k12m10, k12m11, k12m12, k12m13, k12m14, k12m15, k12m16, k12m17]
  instanceTypes := #[(.object "java/math/BigInteger"), .int, .int, (.object "java/lang/String"), .long]
  staticTypes := #[.double, .int, .int, .int, .int, .int, .int, .long, (.object "java/math/BigInteger"), .int, .long, (.array (.object "java/math/BigDecimal")), (.array (.object "java/math/BigDecimal")), .long, .long, (.object "java/math/BigDecimal"), (.object "java/math/BigDecimal"), (.object "java/math/BigDecimal"), (.object "java/math/BigDecimal"), (.object "java/math/BigDecimal"), (.object "java/math/BigDecimal"), .int, .int, .int, .int, .int, .int, .int, .int, (.array .double), (.array .float), (.array .long), (.array (.object "java/math/BigInteger")), .int, .int, (.array .long), .long, (.array (.array .long)), .boolean]
  resolved := Array.replicate 1637 none
  statics := some 2 }

def pool13 : Array CpInfo := pool [(1, .class_ 2), (0, u "java/lang/Integer"), (0, .methodref 4 5), (0, .class_ 6), (0, .nameAndType 7 8), (0, u "java/lang/Number"), (0, u "<init>"), (0, u "()V"), (14, .class_ 25), (1, u "java/math/BigInteger"), (0, u "ZERO"), (0, u "Ljava/math/BigInteger;"), (0, .fieldref 23 29), (0, .nameAndType 30 31), (0, u "mag"), (0, u "[I"), (0, .fieldref 23 33), (0, .nameAndType 34 35), (0, u "signum"), (0, u "I"), (7, .integer 67108864), (30, u "()I"), (7, u "(I)I"), (12, u "bitsPerDigit"), (0, u "[J"), (9, u "digitsPerInt"), (12, u "intRadix"), (10, .long 4294967295), (46, u "([II)V"), (2, u "SMALL_PRIME_PRODUCT"), (6, u "longValue"), (0, u "()J"), (30, u "(I)Ljava/math/BigInteger;"), (14, u "bitLength"), (2, u "valueOf"), (0, u "(J)Ljava/math/BigInteger;"), (21, u "ONE"), (6, u "TWO"), (40, u "intValue"), (2, u "$assertionsDisabled"), (0, u "Z"), (32, .long 16), (3, u "posConst"), (0, u "[Ljava/math/BigInteger;"), (4, u "negConst"), (0, .methodref 23 357), (0, .nameAndType 7 358), (0, u "(J)V"), (1, .nameAndType 7 361), (0, u "([I)V"), (110, .class_ 474), (1, u "java/math/BigInteger$RecursiveOp"), (62, u "divideKnuth"), (3, .class_ 542), (0, u "java/math/MutableBigInteger"), (0, .methodref 541 5), (0, .methodref 541 360), (3, .methodref 541 549), (0, .nameAndType 550 219), (0, u "toBigInteger"), (0, .methodref 23 552), (0, .nameAndType 553 554), (0, u "divideAndRemainderKnuth"), (0, u "(Ljava/math/BigInteger;)[Ljava/math/BigInteger;"), (3, .methodref 541 559), (0, .nameAndType 537 560), (0, u "(Ljava/math/MutableBigInteger;Ljava/math/MutableBigInteger;)Ljava/math/MutableBigInteger;"), (20, u "NEGATIVE_ONE"), (20, .methodref 1 603), (0, .nameAndType 604 82), (0, u "numberOfLeadingZeros"), (0, .methodref 23 606), (0, .nameAndType 607 82), (0, u "bitLengthForInt"), (65, u "bnExpModThreshTable"), (62, .methodref 23 737), (0, .nameAndType 738 82), (0, u "getInt"), (7, u "lowestSetBitPlusTwo"), (0, .fieldref 23 748), (0, .nameAndType 749 35), (0, u "bitLengthPlusOne"), (2, u "bitCountPlusOne"), (6, u "LOG_TWO"), (0, u "D"), (2, u "logCache"), (0, u "[D"), (13, u "NUM_ZEROS"), (2, u "ZEROS"), (0, u "Ljava/lang/String;"), (9, u "longRadix"), (5, u "digitsPerLong"), (19, u "divideAndRemainder"), (2, u "powerCache"), (0, u "[[Ljava/math/BigInteger;"), (37, .methodref 23 861), (0, .nameAndType 862 74), (0, u "signInt"), (5, u "firstNonzeroIntNumPlusTwo"), (38, .class_ 909), (1, u "java/math/BigInteger$UnsafeHolder"), (141, u "TEN"), (106, u "serialPersistentFields"), (0, u "[Ljava/io/ObjectStreamField;"), (0, .class_ 1161), (0, u "java/lang/Comparable"), (0, u "LONG_MASK"), (0, u "J"), (1, u "MAX_MAG_LENGTH"), (0, u "PRIME_SEARCH_BIT_LENGTH_LIMIT"), (1, u "KARATSUBA_THRESHOLD"), (1, u "TOOM_COOK_THRESHOLD"), (1, u "KARATSUBA_SQUARE_THRESHOLD"), (1, u "TOOM_COOK_SQUARE_THRESHOLD"), (1, u "BURNIKEL_ZIEGLER_THRESHOLD"), (0, u "BURNIKEL_ZIEGLER_OFFSET"), (1, u "SCHOENHAGE_BASE_CONVERSION_THRESHOLD"), (1, u "MULTIPLY_SQUARE_THRESHOLD"), (0, u "MONTGOMERY_INTRINSIC_THRESHOLD"), (1, u "SMALL_PRIME_THRESHOLD"), (1, u "DEFAULT_PRIME_CERTAINTY"), (1, u "MAX_CONSTANT"), (3, u "serialVersionUID"), (338, .class_ 1532), (0, u "java/math/BigInteger$RecursiveOp$RecursiveSquare"), (0, .class_ 1534), (0, u "java/math/BigInteger$RecursiveOp$RecursiveMultiply")] 7

def k13c0 : Code := { maxStack := 2, maxLocals := 3, code := jdk_2097_method_25_code, exceptionTable := #[], attributes := #[] }
def k13m0 : Method := { name := "<init>", desc := "([II)V", sig := { parameters := [(.array .int), .int], returnType := none }, accessFlags := 0, code := some k13c0 }
def k13c1 : Code := { maxStack := 4, maxLocals := 2, code := jdk_2097_method_29_code, exceptionTable := #[], attributes := #[] }
def k13m1 : Method := { name := "valueOf", desc := "(J)Ljava/math/BigInteger;", sig := { parameters := [.long], returnType := some (.object "java/math/BigInteger") }, accessFlags := 9, code := some k13c1 }
def k13c2 : Code := { maxStack := 4, maxLocals := 4, code := jdk_2097_method_30_code, exceptionTable := #[], attributes := #[] }
def k13m2 : Method := { name := "<init>", desc := "(J)V", sig := { parameters := [.long], returnType := none }, accessFlags := 2, code := some k13c2 }
def k13c3 : Code := { maxStack := 2, maxLocals := 2, code := jdk_2097_method_63_code, exceptionTable := #[], attributes := #[] }
def k13m3 : Method := { name := "divideAndRemainder", desc := "(Ljava/math/BigInteger;)[Ljava/math/BigInteger;", sig := { parameters := [(.object "java/math/BigInteger")], returnType := some (.array (.object "java/math/BigInteger")) }, accessFlags := 1, code := some k13c3 }
def k13c4 : Code := { maxStack := 5, maxLocals := 7, code := jdk_2097_method_64_code, exceptionTable := #[], attributes := #[] }
def k13m4 : Method := { name := "divideAndRemainderKnuth", desc := "(Ljava/math/BigInteger;)[Ljava/math/BigInteger;", sig := { parameters := [(.object "java/math/BigInteger")], returnType := some (.array (.object "java/math/BigInteger")) }, accessFlags := 2, code := some k13c4 }
def k13c5 : Code := { maxStack := 2, maxLocals := 1, code := jdk_2097_method_74_code, exceptionTable := #[], attributes := #[] }
def k13m5 : Method := { name := "bitLengthForInt", desc := "(I)I", sig := { parameters := [.int], returnType := some .int }, accessFlags := 8, code := some k13c5 }
def k13c6 : Code := { maxStack := 3, maxLocals := 7, code := jdk_2097_method_118_code, exceptionTable := #[], attributes := #[] }
def k13m6 : Method := { name := "bitLength", desc := "()I", sig := { parameters := [], returnType := some .int }, accessFlags := 1, code := some k13c6 }
def k13c7 : Code := { maxStack := 2, maxLocals := 2, code := jdk_2097_method_135_code, exceptionTable := #[], attributes := #[] }
def k13m7 : Method := { name := "intValue", desc := "()I", sig := { parameters := [], returnType := some .int }, accessFlags := 1, code := some k13c7 }
def k13c8 : Code := { maxStack := 6, maxLocals := 4, code := jdk_2097_method_136_code, exceptionTable := #[], attributes := #[] }
def k13m8 : Method := { name := "longValue", desc := "()J", sig := { parameters := [], returnType := some .long }, accessFlags := 1, code := some k13c8 }
def k13c9 : Code := { maxStack := 1, maxLocals := 1, code := jdk_2097_method_147_code, exceptionTable := #[], attributes := #[] }
def k13m9 : Method := { name := "signInt", desc := "()I", sig := { parameters := [], returnType := some .int }, accessFlags := 2, code := some k13c9 }
def k13c10 : Code := { maxStack := 3, maxLocals := 3, code := jdk_2097_method_148_code, exceptionTable := #[], attributes := #[] }
def k13m10 : Method := { name := "getInt", desc := "(I)I", sig := { parameters := [.int], returnType := some .int }, accessFlags := 2, code := some k13c10 }
/-- java/math/BigInteger -/
def k13 : Class := { plain "java/math/BigInteger" (some 8) with
  accessFlags := 33
  interfaces := #[5]
  cf := some (fileOf pool13 23 #[.nestMembers #[907, 472, 1531, 1533]] #[⟨0, 7, 177, #[]⟩, ⟨9, 237, 238, #[]⟩, ⟨2, 7, 358, #[]⟩, ⟨1, 818, 554, #[]⟩, ⟨2, 553, 554, #[]⟩, ⟨8, 607, 82, #[]⟩, ⟨1, 234, 74, #[]⟩, ⟨1, 308, 74, #[]⟩, ⟨1, 187, 188, #[]⟩, ⟨2, 862, 74, #[]⟩, ⟨2, 738, 82, #[]⟩] 33 4 #[1160] #[⟨16, 34, 35, #[]⟩, ⟨16, 30, 31, #[]⟩, ⟨2, 752, 35, #[]⟩, ⟨2, 749, 35, #[]⟩, ⟨2, 746, 35, #[]⟩, ⟨2, 868, 35, #[]⟩, ⟨24, 1162, 1163, #[]⟩, ⟨26, 1165, 35, #[]⟩, ⟨26, 1166, 35, #[]⟩, ⟨26, 1168, 35, #[]⟩, ⟨26, 1170, 35, #[]⟩, ⟨26, 1172, 35, #[]⟩, ⟨26, 1174, 35, #[]⟩, ⟨24, 1176, 35, #[]⟩, ⟨24, 1177, 35, #[]⟩, ⟨26, 1179, 35, #[]⟩, ⟨26, 1181, 35, #[]⟩, ⟨26, 1182, 35, #[]⟩, ⟨10, 95, 96, #[]⟩, ⟨26, 1184, 35, #[]⟩, ⟨26, 1186, 35, #[]⟩, ⟨26, 180, 27, #[]⟩, ⟨26, 1188, 35, #[]⟩, ⟨26, 349, 350, #[]⟩, ⟨26, 355, 350, #[]⟩, ⟨74, 821, 822, #[]⟩, ⟨26, 763, 764, #[]⟩, ⟨26, 759, 760, #[]⟩, ⟨25, 26, 27, #[]⟩, ⟨25, 260, 27, #[]⟩, ⟨25, 267, 27, #[]⟩, ⟨26, 581, 27, #[]⟩, ⟨25, 1051, 27, #[]⟩, ⟨8, 673, 31, #[]⟩, ⟨10, 778, 35, #[]⟩, ⟨26, 781, 782, #[]⟩, ⟨10, 798, 31, #[]⟩, ⟨10, 792, 350, #[]⟩, ⟨10, 106, 31, #[]⟩, ⟨10, 119, 31, #[]⟩, ⟨26, 1192, 1163, #[]⟩, ⟨26, 1158, 1159, #[]⟩, ⟨4120, 311, 312, #[]⟩])
  fields := #[⟨"signum", .int, 16, 0, 0⟩, ⟨"mag", (.array .int), 16, 1, 0⟩, ⟨"bitCountPlusOne", .int, 2, 2, 0⟩, ⟨"bitLengthPlusOne", .int, 2, 3, 0⟩, ⟨"lowestSetBitPlusTwo", .int, 2, 4, 0⟩, ⟨"firstNonzeroIntNumPlusTwo", .int, 2, 5, 0⟩, ⟨"LONG_MASK", .long, 24, 0, 0⟩, ⟨"MAX_MAG_LENGTH", .int, 26, 1, 0⟩, ⟨"PRIME_SEARCH_BIT_LENGTH_LIMIT", .int, 26, 2, 0⟩, ⟨"KARATSUBA_THRESHOLD", .int, 26, 3, 0⟩, ⟨"TOOM_COOK_THRESHOLD", .int, 26, 4, 0⟩, ⟨"KARATSUBA_SQUARE_THRESHOLD", .int, 26, 5, 0⟩, ⟨"TOOM_COOK_SQUARE_THRESHOLD", .int, 26, 6, 0⟩, ⟨"BURNIKEL_ZIEGLER_THRESHOLD", .int, 24, 7, 0⟩, ⟨"BURNIKEL_ZIEGLER_OFFSET", .int, 24, 8, 0⟩, ⟨"SCHOENHAGE_BASE_CONVERSION_THRESHOLD", .int, 26, 9, 0⟩, ⟨"MULTIPLY_SQUARE_THRESHOLD", .int, 26, 10, 0⟩, ⟨"MONTGOMERY_INTRINSIC_THRESHOLD", .int, 26, 11, 0⟩, ⟨"bitsPerDigit", (.array .long), 10, 12, 0⟩, ⟨"SMALL_PRIME_THRESHOLD", .int, 26, 13, 0⟩, ⟨"DEFAULT_PRIME_CERTAINTY", .int, 26, 14, 0⟩, ⟨"SMALL_PRIME_PRODUCT", (.object "java/math/BigInteger"), 26, 15, 0⟩, ⟨"MAX_CONSTANT", .int, 26, 16, 0⟩, ⟨"posConst", (.array (.object "java/math/BigInteger")), 26, 17, 0⟩, ⟨"negConst", (.array (.object "java/math/BigInteger")), 26, 18, 0⟩, ⟨"powerCache", (.array (.array (.object "java/math/BigInteger"))), 74, 19, 0⟩, ⟨"logCache", (.array .double), 26, 20, 0⟩, ⟨"LOG_TWO", .double, 26, 21, 0⟩, ⟨"ZERO", (.object "java/math/BigInteger"), 25, 22, 0⟩, ⟨"ONE", (.object "java/math/BigInteger"), 25, 23, 0⟩, ⟨"TWO", (.object "java/math/BigInteger"), 25, 24, 0⟩, ⟨"NEGATIVE_ONE", (.object "java/math/BigInteger"), 26, 25, 0⟩, ⟨"TEN", (.object "java/math/BigInteger"), 25, 26, 0⟩, ⟨"bnExpModThreshTable", (.array .int), 8, 27, 0⟩, ⟨"NUM_ZEROS", .int, 10, 28, 0⟩, ⟨"ZEROS", (.object "java/lang/String"), 26, 29, 0⟩, ⟨"digitsPerLong", (.array .int), 10, 30, 0⟩, ⟨"longRadix", (.array (.object "java/math/BigInteger")), 10, 31, 0⟩, ⟨"digitsPerInt", (.array .int), 10, 32, 0⟩, ⟨"intRadix", (.array .int), 10, 33, 0⟩, ⟨"serialVersionUID", .long, 26, 34, 0⟩, ⟨"serialPersistentFields", (.array (.object "java/io/ObjectStreamField")), 26, 35, 0⟩, ⟨"$assertionsDisabled", .boolean, 4120, 36, 0⟩]
  methods := #[k13m0, k13m1, k13m2, k13m3, k13m4, k13m5, k13m6, k13m7, k13m8, k13m9, k13m10]
  instanceTypes := #[.int, (.array .int), .int, .int, .int, .int]
  staticTypes := #[.long, .int, .int, .int, .int, .int, .int, .int, .int, .int, .int, .int, (.array .long), .int, .int, (.object "java/math/BigInteger"), .int, (.array (.object "java/math/BigInteger")), (.array (.object "java/math/BigInteger")), (.array (.array (.object "java/math/BigInteger"))), (.array .double), .double, (.object "java/math/BigInteger"), (.object "java/math/BigInteger"), (.object "java/math/BigInteger"), (.object "java/math/BigInteger"), (.object "java/math/BigInteger"), (.array .int), .int, (.object "java/lang/String"), (.array .int), (.array (.object "java/math/BigInteger")), (.array .int), (.array .int), .long, (.array (.object "java/io/ObjectStreamField")), .boolean]
  resolved := Array.replicate 1542 none
  statics := some 3 }

def pool14 : Array CpInfo := pool [(1, .class_ 2), (0, u "java/math/BigInteger"), (2, .methodref 6 7), (0, .class_ 8), (0, .nameAndType 9 10), (0, u "java/lang/Object"), (0, u "<init>"), (0, u "()V"), (0, .fieldref 12 13), (0, .class_ 14), (0, .nameAndType 15 16), (0, u "java/math/MutableBigInteger"), (0, u "offset"), (0, u "I"), (0, .fieldref 12 18), (0, .nameAndType 19 20), (0, u "value"), (0, u "[I"), (0, .fieldref 12 22), (0, .nameAndType 23 16), (0, u "intLen"), (4, .class_ 30), (1, u "java/util/Arrays"), (2, .methodref 28 34), (0, .nameAndType 35 36), (0, u "copyOfRange"), (0, u "([III)[I"), (0, .methodref 28 38), (0, .nameAndType 39 40), (0, u "fill"), (0, u "([II)V"), (2, u "$assertionsDisabled"), (0, u "Z"), (7, .long 4294967295), (1, .fieldref 1 55), (0, .nameAndType 56 57), (0, u "ZERO"), (0, u "Ljava/math/BigInteger;"), (0, .methodref 12 59), (0, .nameAndType 60 61), (0, u "getMagnitudeArray"), (0, u "()[I"), (0, .methodref 1 63), (0, .nameAndType 9 40), (0, .methodref 12 65), (0, .nameAndType 66 10), (0, u "normalize"), (6, u "toBigInteger"), (0, u "(I)Ljava/math/BigInteger;"), (13, .integer 2147483648), (1, .class_ 92), (1, u "java/lang/Integer"), (1, u "(I)I"), (47, .methodref 12 143), (0, .nameAndType 144 145), (0, u "compare"), (0, u "(Ljava/math/MutableBigInteger;)I"), (3, .methodref 12 150), (0, .nameAndType 151 10), (0, u "clear"), (0, .methodref 90 153), (0, .nameAndType 154 94), (0, u "numberOfLeadingZeros"), (7, u "(Ljava/math/MutableBigInteger;Ljava/math/MutableBigInteger;Z)Ljava/math/MutableBigInteger;"), (0, .methodref 12 164), (0, .nameAndType 165 162), (0, u "divideKnuth"), (3, u "(Ljava/math/MutableBigInteger;Ljava/math/MutableBigInteger;)Ljava/math/MutableBigInteger;"), (7, .methodref 12 7), (0, .methodref 12 179), (0, .nameAndType 180 181), (0, u "divideOneWord"), (0, u "(ILjava/math/MutableBigInteger;)I"), (75, u "ONE"), (0, u "Ljava/math/MutableBigInteger;"), (2, u "([I)V"), (149, u "KNUTH_POW2_THRESH_LEN"), (2, u "KNUTH_POW2_THRESH_ZEROS")] 175

def k14c0 : Code := { maxStack := 2, maxLocals := 1, code := jdk_2101_method_1_code, exceptionTable := #[], attributes := #[] }
def k14m0 : Method := { name := "<init>", desc := "()V", sig := { parameters := [], returnType := none }, accessFlags := 0, code := some k14c0 }
def k14c1 : Code := { maxStack := 2, maxLocals := 2, code := jdk_2101_method_3_code, exceptionTable := #[], attributes := #[] }
def k14m1 : Method := { name := "<init>", desc := "([I)V", sig := { parameters := [(.array .int)], returnType := none }, accessFlags := 0, code := some k14c1 }
def k14c2 : Code := { maxStack := 4, maxLocals := 2, code := jdk_2101_method_7_code, exceptionTable := #[], attributes := #[] }
def k14m2 : Method := { name := "getMagnitudeArray", desc := "()[I", sig := { parameters := [], returnType := some (.array .int) }, accessFlags := 2, code := some k14c2 }
def k14c3 : Code := { maxStack := 4, maxLocals := 2, code := jdk_2101_method_9_code, exceptionTable := #[], attributes := #[] }
def k14m3 : Method := { name := "toBigInteger", desc := "(I)Ljava/math/BigInteger;", sig := { parameters := [.int], returnType := some (.object "java/math/BigInteger") }, accessFlags := 0, code := some k14c3 }
def k14c4 : Code := { maxStack := 4, maxLocals := 3, code := jdk_2101_method_13_code, exceptionTable := #[], attributes := #[] }
def k14m4 : Method := { name := "clear", desc := "()V", sig := { parameters := [], returnType := none }, accessFlags := 0, code := some k14c4 }
def k14c5 : Code := { maxStack := 3, maxLocals := 8, code := jdk_2101_method_15_code, exceptionTable := #[], attributes := #[] }
def k14m5 : Method := { name := "compare", desc := "(Ljava/math/MutableBigInteger;)I", sig := { parameters := [(.object "java/math/MutableBigInteger")], returnType := some .int }, accessFlags := 16, code := some k14c5 }
def k14c6 : Code := { maxStack := 3, maxLocals := 4, code := jdk_2101_method_21_code, exceptionTable := #[], attributes := #[] }
def k14m6 : Method := { name := "normalize", desc := "()V", sig := { parameters := [], returnType := none }, accessFlags := 16, code := some k14c6 }
def k14c7 : Code := { maxStack := 6, maxLocals := 15, code := jdk_2101_method_53_code, exceptionTable := #[], attributes := #[] }
def k14m7 : Method := { name := "divideOneWord", desc := "(ILjava/math/MutableBigInteger;)I", sig := { parameters := [.int, (.object "java/math/MutableBigInteger")], returnType := some .int }, accessFlags := 0, code := some k14c7 }
def k14c8 : Code := { maxStack := 4, maxLocals := 3, code := jdk_2101_method_56_code, exceptionTable := #[], attributes := #[] }
def k14m8 : Method := { name := "divideKnuth", desc := "(Ljava/math/MutableBigInteger;Ljava/math/MutableBigInteger;)Ljava/math/MutableBigInteger;", sig := { parameters := [(.object "java/math/MutableBigInteger"), (.object "java/math/MutableBigInteger")], returnType := some (.object "java/math/MutableBigInteger") }, accessFlags := 0, code := some k14c8 }
def k14c9 : Code := { maxStack := 5, maxLocals := 8, code := jdk_2101_method_57_code, exceptionTable := #[], attributes := #[] }
def k14m9 : Method := { name := "divideKnuth", desc := "(Ljava/math/MutableBigInteger;Ljava/math/MutableBigInteger;Z)Ljava/math/MutableBigInteger;", sig := { parameters := [(.object "java/math/MutableBigInteger"), (.object "java/math/MutableBigInteger"), .boolean], returnType := some (.object "java/math/MutableBigInteger") }, accessFlags := 0, code := some k14c9 }
/-- java/math/MutableBigInteger -/
def k14 : Class := { plain "java/math/MutableBigInteger" (some 0) with
  accessFlags := 32
  interfaces := #[]
  cf := some (fileOf pool14 12 #[] #[⟨0, 9, 10, #[]⟩, ⟨0, 9, 261, #[]⟩, ⟨2, 60, 61, #[]⟩, ⟨0, 73, 74, #[]⟩, ⟨0, 151, 10, #[]⟩, ⟨16, 144, 145, #[]⟩, ⟨16, 66, 10, #[]⟩, ⟨0, 180, 181, #[]⟩, ⟨0, 165, 169, #[]⟩, ⟨0, 165, 162, #[]⟩] 32 6 #[] #[⟨0, 19, 20, #[]⟩, ⟨0, 23, 16, #[]⟩, ⟨0, 15, 16, #[]⟩, ⟨24, 257, 258, #[]⟩, ⟨24, 411, 16, #[]⟩, ⟨24, 414, 16, #[]⟩, ⟨4120, 43, 44, #[]⟩])
  fields := #[⟨"value", (.array .int), 0, 0, 0⟩, ⟨"intLen", .int, 0, 1, 0⟩, ⟨"offset", .int, 0, 2, 0⟩, ⟨"ONE", (.object "java/math/MutableBigInteger"), 24, 0, 0⟩, ⟨"KNUTH_POW2_THRESH_LEN", .int, 24, 1, 0⟩, ⟨"KNUTH_POW2_THRESH_ZEROS", .int, 24, 2, 0⟩, ⟨"$assertionsDisabled", .boolean, 4120, 3, 0⟩]
  methods := #[k14m0, k14m1, k14m2, k14m3, k14m4, k14m5, k14m6, k14m7, k14m8, k14m9]
  instanceTypes := #[(.array .int), .int, .int]
  staticTypes := #[(.object "java/math/MutableBigInteger"), .int, .int, .boolean]
  resolved := Array.replicate 590 none
  statics := none }

def pool15 : Array CpInfo := pool [(1, .class_ 2), (0, u "java/lang/Integer"), (16, u "digits"), (0, u "[C"), (32, u "numberOfLeadingZeros"), (0, u "(I)I"), (30, u "DigitOnes"), (0, u "[B"), (2, u "DigitTens"), (99, .class_ 190), (0, u "java/lang/Integer$IntegerCache"), (3, u "I"), (8, .class_ 204), (0, u "java/lang/Number"), (2, u "value"), (56, .integer 65536), (37, u "TYPE"), (0, u "Ljava/lang/Class;"), (0, .class_ 305), (0, u "java/lang/Comparable"), (0, .class_ 307), (0, u "java/lang/constant/Constable"), (0, .class_ 309), (0, u "java/lang/constant/ConstantDesc"), (0, u "MIN_VALUE"), (1, u "MAX_VALUE"), (3, u "SIZE"), (1, u "BYTES"), (1, u "serialVersionUID"), (0, u "J")] 131

def k15c0 : Code := { maxStack := 3, maxLocals := 2, code := jdk_33_method_47_code, exceptionTable := #[], attributes := #[] }
def k15m0 : Method := { name := "numberOfLeadingZeros", desc := "(I)I", sig := { parameters := [.int], returnType := some .int }, accessFlags := 9, code := some k15c0 }
/-- java/lang/Integer -/
def k15 : Class := { plain "java/lang/Integer" (some 8) with
  accessFlags := 49
  interfaces := #[5, 9, 10]
  cf := some (fileOf pool15 1 #[.nestMembers #[189]] #[⟨9, 53, 54, #[]⟩] 49 203 #[304, 306, 308] #[⟨25, 310, 194, #[]⟩, ⟨25, 312, 194, #[]⟩, ⟨25, 302, 303, #[]⟩, ⟨24, 19, 20, #[]⟩, ⟨24, 89, 86, #[]⟩, ⟨24, 85, 86, #[]⟩, ⟨18, 207, 194, #[]⟩, ⟨25, 316, 194, #[]⟩, ⟨25, 318, 194, #[]⟩, ⟨26, 320, 321, #[]⟩])
  fields := #[⟨"MIN_VALUE", .int, 25, 0, 0⟩, ⟨"MAX_VALUE", .int, 25, 1, 0⟩, ⟨"TYPE", (.object "java/lang/Class"), 25, 2, 0⟩, ⟨"digits", (.array .char), 24, 3, 0⟩, ⟨"DigitTens", (.array .byte), 24, 4, 0⟩, ⟨"DigitOnes", (.array .byte), 24, 5, 0⟩, ⟨"value", .int, 18, 0, 0⟩, ⟨"SIZE", .int, 25, 6, 0⟩, ⟨"BYTES", .int, 25, 7, 0⟩, ⟨"serialVersionUID", .long, 26, 8, 0⟩]
  methods := #[k15m0]
  instanceTypes := #[.int]
  staticTypes := #[.int, .int, (.object "java/lang/Class"), (.array .char), (.array .byte), (.array .byte), .int, .int, .long]
  resolved := Array.replicate 453 none
  statics := none }

def pool16 : Array CpInfo := pool [(2, .class_ 4), (1, u "java/lang/Object"), (0, u "<init>"), (0, u "()V"), (7, .class_ 16), (1, u "java/util/Arrays"), (57, .class_ 76), (1, u "java/util/Arrays$NaturalOrder"), (36, .class_ 115), (1, u "java/util/Arrays$LegacyMergeSort"), (1, u "Z"), (21, u "copyOfRange"), (10, .methodref 151 152), (0, .class_ 153), (0, .nameAndType 154 155), (0, u "java/lang/System"), (0, u "arraycopy"), (0, u "(Ljava/lang/Object;ILjava/lang/Object;II)V"), (148, .methodref 305 306), (0, .class_ 307), (0, .nameAndType 308 309), (0, u "java/lang/Math"), (0, u "min"), (0, u "(II)I"), (33, .methodref 14 344), (0, .nameAndType 345 346), (0, u "checkLength"), (0, u "(II)V"), (4, .methodref 14 352), (0, .nameAndType 353 354), (0, u "copyOfRangeInt"), (0, u "([III)[I"), (20, .class_ 376), (0, u "java/util/Arrays$ArrayList"), (68, u "$assertionsDisabled"), (269, u "MIN_ARRAY_SORT_GRAN"), (0, u "I"), (2, u "INSERTIONSORT_THRESHOLD"), (120, u "fill"), (4, u "([II)V"), (129, .class_ 976), (0, u "java/util/Arrays$ArrayItr")] 52

def k16m0 : Method := { name := "<init>", desc := "()V", sig := { parameters := [], returnType := none }, accessFlags := 2, code := none }
def k16c1 : Code := { maxStack := 3, maxLocals := 4, code := jdk_65_method_103_code, exceptionTable := #[], attributes := #[] }
def k16m1 : Method := { name := "fill", desc := "([II)V", sig := { parameters := [(.array .int), .int], returnType := none }, accessFlags := 9, code := some k16c1 }
def k16c2 : Code := { maxStack := 4, maxLocals := 2, code := jdk_65_method_131_code, exceptionTable := #[], attributes := #[] }
def k16m2 : Method := { name := "checkLength", desc := "(II)V", sig := { parameters := [.int, .int], returnType := none }, accessFlags := 10, code := some k16c2 }
def k16c3 : Code := { maxStack := 3, maxLocals := 3, code := jdk_65_method_136_code, exceptionTable := #[], attributes := #[] }
def k16m3 : Method := { name := "copyOfRange", desc := "([III)[I", sig := { parameters := [(.array .int), .int, .int], returnType := some (.array .int) }, accessFlags := 9, code := some k16c3 }
def k16c4 : Code := { maxStack := 6, maxLocals := 5, code := jdk_65_method_137_code, exceptionTable := #[], attributes := #[] }
def k16m4 : Method := { name := "copyOfRangeInt", desc := "([III)[I", sig := { parameters := [(.array .int), .int, .int], returnType := some (.array .int) }, accessFlags := 10, code := some k16c4 }
/-- java/util/Arrays -/
def k16 : Class := { plain "java/util/Arrays" (some 0) with
  accessFlags := 49
  interfaces := #[]
  cf := some (fileOf pool16 14 #[.nestMembers #[975, 375, 113, 74]] #[⟨2, 5, 6, #[]⟩, ⟨9, 840, 845, #[]⟩, ⟨10, 345, 346, #[]⟩, ⟨9, 139, 354, #[]⟩, ⟨10, 353, 354, #[]⟩] 49 2 #[] #[⟨26, 715, 716, #[]⟩, ⟨26, 719, 716, #[]⟩, ⟨4120, 445, 117, #[]⟩])
  fields := #[⟨"MIN_ARRAY_SORT_GRAN", .int, 26, 0, 0⟩, ⟨"INSERTIONSORT_THRESHOLD", .int, 26, 1, 0⟩, ⟨"$assertionsDisabled", .boolean, 4120, 2, 0⟩]
  methods := #[k16m0, k16m1, k16m2, k16m3, k16m4]
  instanceTypes := #[]
  staticTypes := #[.int, .int, .boolean]
  resolved := Array.replicate 1029 none
  statics := none }

def pool17 : Array CpInfo := pool [(2, .class_ 4), (1, u "java/lang/Object"), (0, u "<init>"), (0, u "()V"), (1, .class_ 10), (1, u "java/lang/System"), (0, u "allowSecurityManager"), (0, u "I"), (16, u "cons"), (0, u "Ljava/io/Console;"), (77, .class_ 110), (1, u "java/lang/System$CallersHolder"), (43, u "initialErrStream"), (0, u "Ljava/io/PrintStream;"), (19, u "security"), (0, u "Ljava/lang/SecurityManager;"), (31, .class_ 209), (0, u "java/lang/System$1"), (7, u "props"), (0, u "Ljava/util/Properties;"), (2, u "lineSeparator"), (0, u "Ljava/lang/String;"), (96, .class_ 321), (1, u "java/lang/System$LoggerFinder"), (5, .class_ 328), (0, u "java/lang/System$Logger"), (67, u "err"), (2, u "out"), (91, u "notSupportedJnuEncoding"), (15, u "in"), (17, u "initialIn"), (0, u "Ljava/io/InputStream;"), (35, u "bootLayer"), (0, u "Ljava/lang/ModuleLayer;"), (99, .class_ 664), (0, u "java/lang/System$2"), (9, u "NEVER"), (2, u "MAYBE"), (49, u "arraycopy"), (0, u "(Ljava/lang/Object;ILjava/lang/Object;II)V"), (72, .class_ 802), (0, u "java/lang/System$Logger$Level")] 31

def k17m0 : Method := { name := "<init>", desc := "()V", sig := { parameters := [], returnType := none }, accessFlags := 2, code := none }
def k17m1 : Method := { name := "arraycopy", desc := "(Ljava/lang/Object;ILjava/lang/Object;II)V", sig := { parameters := [(.object "java/lang/Object"), .int, (.object "java/lang/Object"), .int, .int], returnType := none }, accessFlags := 265, code := none }
/-- java/lang/System -/
def k17 : Class := { plain "java/lang/System" (some 0) with
  accessFlags := 49
  interfaces := #[]
  cf := some (fileOf pool17 8 #[.nestMembers #[319, 327, 801, 108, 663, 208]] #[⟨2, 5, 6, #[]⟩, ⟨265, 727, 728, #[]⟩] 49 2 #[] #[⟨25, 507, 526, #[]⟩, ⟨25, 399, 155, #[]⟩, ⟨25, 396, 155, #[]⟩, ⟨10, 525, 526, #[]⟩, ⟨26, 674, 12, #[]⟩, ⟨26, 677, 12, #[]⟩, ⟨10, 11, 12, #[]⟩, ⟨74, 175, 176, #[]⟩, ⟨10, 491, 222, #[]⟩, ⟨74, 29, 30, #[]⟩, ⟨74, 154, 155, #[]⟩, ⟨10, 217, 218, #[]⟩, ⟨10, 221, 222, #[]⟩, ⟨8, 562, 563, #[]⟩])
  fields := #[⟨"in", (.object "java/io/InputStream"), 25, 0, 0⟩, ⟨"out", (.object "java/io/PrintStream"), 25, 1, 0⟩, ⟨"err", (.object "java/io/PrintStream"), 25, 2, 0⟩, ⟨"initialIn", (.object "java/io/InputStream"), 10, 3, 0⟩, ⟨"NEVER", .int, 26, 4, 0⟩, ⟨"MAYBE", .int, 26, 5, 0⟩, ⟨"allowSecurityManager", .int, 10, 6, 0⟩, ⟨"security", (.object "java/lang/SecurityManager"), 74, 7, 0⟩, ⟨"notSupportedJnuEncoding", (.object "java/lang/String"), 10, 8, 0⟩, ⟨"cons", (.object "java/io/Console"), 74, 9, 0⟩, ⟨"initialErrStream", (.object "java/io/PrintStream"), 74, 10, 0⟩, ⟨"props", (.object "java/util/Properties"), 10, 11, 0⟩, ⟨"lineSeparator", (.object "java/lang/String"), 10, 12, 0⟩, ⟨"bootLayer", (.object "java/lang/ModuleLayer"), 8, 13, 0⟩]
  methods := #[k17m0, k17m1]
  instanceTypes := #[]
  staticTypes := #[(.object "java/io/InputStream"), (.object "java/io/PrintStream"), (.object "java/io/PrintStream"), (.object "java/io/InputStream"), .int, .int, .int, (.object "java/lang/SecurityManager"), (.object "java/lang/String"), (.object "java/io/Console"), (.object "java/io/PrintStream"), (.object "java/util/Properties"), (.object "java/lang/String"), (.object "java/lang/ModuleLayer")]
  resolved := Array.replicate 834 none
  statics := none }

def pool18 : Array CpInfo := pool [(1, u "java/lang/Cloneable"), (0, .class_ 1), (0, u "java/lang/Object"), (0, .class_ 3)] 3

/-- java/lang/Cloneable -/
def k18 : Class := { plain "java/lang/Cloneable" (some 0) with
  accessFlags := 1537
  interfaces := #[]
  cf := some (fileOf pool18 2 #[] #[] 1537 4 #[] #[])
  fields := #[]
  methods := #[]
  instanceTypes := #[]
  staticTypes := #[]
  resolved := Array.replicate 8 none
  statics := none }

/-- the primitive byte -/
def k19 : Class := { plain "byte" none with kind := .primitive 'B', accessFlags := 0x411 }
/-- [B -/
def k20 : Class := { plain "[B" (some 0) with kind := .array 19 .byte, interfaces := #[18, 6], accessFlags := 1041 }

/-- the primitive int -/
def k21 : Class := { plain "int" none with kind := .primitive 'I', accessFlags := 0x411 }
/-- [I -/
def k22 : Class := { plain "[I" (some 0) with kind := .array 21 .int, interfaces := #[18, 6], accessFlags := 1041 }

/-- the primitive long -/
def k23 : Class := { plain "long" none with kind := .primitive 'J', accessFlags := 0x411 }
/-- [J -/
def k24 : Class := { plain "[J" (some 0) with kind := .array 23 .long, interfaces := #[18, 6], accessFlags := 1041 }

/-- [Ljava/math/BigDecimal; -/
def k25 : Class := { plain "[Ljava/math/BigDecimal;" (some 0) with kind := .array 12 (.object "java/math/BigDecimal"), interfaces := #[18, 6], accessFlags := 1041 }

/-- [Ljava/math/BigInteger; -/
def k26 : Class := { plain "[Ljava/math/BigInteger;" (some 0) with kind := .array 13 (.object "java/math/BigInteger"), interfaces := #[18, 6], accessFlags := 1041 }

def heap : Heap := #[{ cls := 2, slots := #[.ref 56, .ref 57, .int 0], vm := .statics 2 },
  { cls := 7, slots := #[.null, .long 0, .ref 29], vm := .statics 7 },
  { cls := 12, slots := #[.double 0, .int 0, .int 0, .int 0, .int 0, .int 0, .int 0, .long 0, .null, .int 0, .long 0, .ref 4, .ref 5, .long 0, .long 0, .ref 30, .ref 31, .ref 32, .ref 40, .null, .null, .int 0, .int 0, .int 0, .int 0, .int 0, .int 0, .int 0, .int 0, .null, .null, .ref 58, .null, .int 0, .int 0, .ref 59, .long 0, .null, .int 0], vm := .statics 12 },
  { cls := 13, slots := #[.long 0, .int 0, .int 0, .int 0, .int 0, .int 0, .int 0, .int 0, .int 0, .int 0, .int 0, .int 0, .null, .int 0, .int 0, .null, .int 0, .null, .null, .null, .null, .double 0, .ref 18, .ref 19, .ref 20, .null, .ref 28, .null, .int 0, .null, .null, .null, .null, .null, .long 0, .null, .int 0], vm := .statics 13 },
  { cls := 25, slots := #[.ref 30, .ref 31, .ref 32, .ref 33, .ref 34, .ref 35, .ref 36, .ref 37, .ref 38, .ref 39, .ref 40], vm := .none },
  { cls := 25, slots := #[.ref 30, .ref 41, .ref 42, .ref 43, .ref 44, .ref 45, .ref 46, .ref 47, .ref 48, .ref 49, .ref 50, .ref 51, .ref 52, .ref 53, .ref 54, .ref 55], vm := .none },
  { cls := 22, slots := #[], vm := .none },
  { cls := 22, slots := #[.int 1], vm := .none },
  { cls := 22, slots := #[.int 2], vm := .none },
  { cls := 22, slots := #[.int 3], vm := .none },
  { cls := 22, slots := #[.int 4], vm := .none },
  { cls := 22, slots := #[.int 5], vm := .none },
  { cls := 22, slots := #[.int 6], vm := .none },
  { cls := 22, slots := #[.int 7], vm := .none },
  { cls := 22, slots := #[.int 8], vm := .none },
  { cls := 22, slots := #[.int 9], vm := .none },
  { cls := 22, slots := #[.int 10], vm := .none },
  { cls := 22, slots := #[.int 1000000000], vm := .none },
  { cls := 13, slots := #[.int 0, .ref 6, .int 0, .int 0, .int 0, .int 0], vm := .none },
  { cls := 13, slots := #[.int 1, .ref 7, .int 0, .int 0, .int 0, .int 0], vm := .none },
  { cls := 13, slots := #[.int 1, .ref 8, .int 0, .int 0, .int 0, .int 0], vm := .none },
  { cls := 13, slots := #[.int 1, .ref 9, .int 0, .int 0, .int 0, .int 0], vm := .none },
  { cls := 13, slots := #[.int 1, .ref 10, .int 0, .int 0, .int 0, .int 0], vm := .none },
  { cls := 13, slots := #[.int 1, .ref 11, .int 0, .int 0, .int 0, .int 0], vm := .none },
  { cls := 13, slots := #[.int 1, .ref 12, .int 0, .int 0, .int 0, .int 0], vm := .none },
  { cls := 13, slots := #[.int 1, .ref 13, .int 0, .int 0, .int 0, .int 0], vm := .none },
  { cls := 13, slots := #[.int 1, .ref 14, .int 0, .int 0, .int 0, .int 0], vm := .none },
  { cls := 13, slots := #[.int 1, .ref 15, .int 0, .int 0, .int 0, .int 0], vm := .none },
  { cls := 13, slots := #[.int 1, .ref 16, .int 0, .int 0, .int 0, .int 0], vm := .none },
  { cls := 13, slots := #[.int 1, .ref 17, .int 0, .int 0, .int 0, .int 0], vm := .none },
  { cls := 12, slots := #[.ref 18, .int 0, .int 1, .null, .long 0], vm := .none },
  { cls := 12, slots := #[.ref 19, .int 0, .int 1, .null, .long 1], vm := .none },
  { cls := 12, slots := #[.ref 20, .int 0, .int 1, .null, .long 2], vm := .none },
  { cls := 12, slots := #[.ref 21, .int 0, .int 1, .null, .long 3], vm := .none },
  { cls := 12, slots := #[.ref 22, .int 0, .int 1, .null, .long 4], vm := .none },
  { cls := 12, slots := #[.ref 23, .int 0, .int 1, .null, .long 5], vm := .none },
  { cls := 12, slots := #[.ref 24, .int 0, .int 1, .null, .long 6], vm := .none },
  { cls := 12, slots := #[.ref 25, .int 0, .int 1, .null, .long 7], vm := .none },
  { cls := 12, slots := #[.ref 26, .int 0, .int 1, .null, .long 8], vm := .none },
  { cls := 12, slots := #[.ref 27, .int 0, .int 1, .null, .long 9], vm := .none },
  { cls := 12, slots := #[.ref 28, .int 0, .int 1, .null, .long 10], vm := .none },
  { cls := 12, slots := #[.ref 18, .int 1, .int 1, .null, .long 0], vm := .none },
  { cls := 12, slots := #[.ref 18, .int 2, .int 1, .null, .long 0], vm := .none },
  { cls := 12, slots := #[.ref 18, .int 3, .int 1, .null, .long 0], vm := .none },
  { cls := 12, slots := #[.ref 18, .int 4, .int 1, .null, .long 0], vm := .none },
  { cls := 12, slots := #[.ref 18, .int 5, .int 1, .null, .long 0], vm := .none },
  { cls := 12, slots := #[.ref 18, .int 6, .int 1, .null, .long 0], vm := .none },
  { cls := 12, slots := #[.ref 18, .int 7, .int 1, .null, .long 0], vm := .none },
  { cls := 12, slots := #[.ref 18, .int 8, .int 1, .null, .long 0], vm := .none },
  { cls := 12, slots := #[.ref 18, .int 9, .int 1, .null, .long 0], vm := .none },
  { cls := 12, slots := #[.ref 18, .int 10, .int 1, .null, .long 0], vm := .none },
  { cls := 12, slots := #[.ref 18, .int 11, .int 1, .null, .long 0], vm := .none },
  { cls := 12, slots := #[.ref 18, .int 12, .int 1, .null, .long 0], vm := .none },
  { cls := 12, slots := #[.ref 18, .int 13, .int 1, .null, .long 0], vm := .none },
  { cls := 12, slots := #[.ref 18, .int 14, .int 1, .null, .long 0], vm := .none },
  { cls := 12, slots := #[.ref 18, .int 15, .int 1, .null, .long 0], vm := .none },
  { cls := 7, slots := #[.long 1, .int 0], vm := .none },
  { cls := 7, slots := #[.long 10, .int 0], vm := .none },
  { cls := 24, slots := #[.long 1, .long 10, .long 100, .long 1000, .long 10000, .long 100000, .long 1000000, .long 10000000, .long 100000000, .long 1000000000, .long 10000000000, .long 100000000000, .long 1000000000000, .long 10000000000000, .long 100000000000000, .long 1000000000000000, .long 10000000000000000, .long 100000000000000000, .long 1000000000000000000], vm := .none },
  { cls := 24, slots := #[.long 9223372036854775807, .long 922337203685477580, .long 92233720368547758, .long 9223372036854775, .long 922337203685477, .long 92233720368547, .long 9223372036854, .long 922337203685, .long 92233720368, .long 9223372036, .long 922337203, .long 92233720, .long 9223372, .long 922337, .long 92233, .long 9223, .long 922, .long 92, .long 9], vm := .none }]
def classes : Array Class := #[k0, k1, k2, k3, k4, k5, k6, k7, k8, k9, k10, k11, k12, k13, k14, k15, k16, k17, k18, k19, k20, k21, k22, k23, k24, k25, k26]
def interned : List (Array UInt16 × Addr) := []
def slotsUsed : Nat := 364
def theMethod : MethodId := ⟨1, 3⟩
def args0 : Array Value := #[.int 5]
def aboutOver (below : List Frame) : State where
  vm := { classes := classes, interned := interned.toArray }
  heap := heap
  slotsUsed := slotsUsed
  threads := #[{ frames := .invoking theMethod args0 :: below }]
def below0 : List Frame := [.native { method := ⟨0, 0⟩, args := #[] }]
def about1 : State := aboutOver below0
def p0 : Program := .bare "" "" ""
def e0 : Env := launch0.env 0 0 0
theorem w_frames : about1.frames = Frame.invoking theMethod args0 :: below0 := rfl
set_option maxRecDepth 65536 in
theorem w_args : argsFit about1.vm theMethod args0 = true := by decide +kernel
set_option maxRecDepth 65536 in
theorem w_heap : heapFits about1 = true := by decide +kernel
set_option maxRecDepth 65536 in
theorem w_runnable : about1.curStatus? = some .runnable := by decide +kernel
set_option maxRecDepth 65536 in
theorem w_alone : about1.alone = true := by decide +kernel
set_option maxRecDepth 65536 in
theorem w_named : about1.methodNamed? x = some theMethod := by decide +kernel
set_option maxRecDepth 65536 in
theorem w_hears : about1.hears theMethod below0 = true := by decide +kernel
set_option maxRecDepth 65536 in
theorem w_ripe : about1.ripe theMethod args0 below0 = true := by decide +kernel
theorem w_running : about1.status = .running := rfl
set_option maxRecDepth 65536 in
theorem w_room : about1.hasRoom e0.platform room_1 = true :=
  launch0.hasRoom_least _ room_1 (by decide +kernel) (by decide +kernel) (by decide +kernel) (by decide +kernel) (by decide +kernel) (by decide +kernel)
theorem allAtoms_all (ts : List Jvm.Cond) (a : Array Jvm.Value) (st : Jvm.State) : (allAtoms ts).before a st = ts.all (fun c => c.before a st) := by
  induction ts with
  | nil => rfl
  | cons c t ih =>
    show (Jvm.Cond.and c (allAtoms t)).before a st = _
    rw [Jvm.Cond.before_and, ih, List.all_cons]
def words1 : List Jvm.Cond := Jvm.Cond.code x code maxLocals ret :: tables_1
/-- a 'code' word, met by the world's own term for the bytes: nothing is compared byte by byte -/
theorem code_word {y : MethodName} {bytes : ByteArray} {mx : Nat} {rt : Option FieldType} {a : Array Value} {s : State} {m : MethodId} {meth : Method} {c : Code} (h1 : s.methodNamed? y = some m) (h2 : s.vm.method? m = some meth) (h3 : meth.code = some c) (h4 : c.code = bytes)
    (h5 : (c.maxLocals == mx && c.exceptionTable.isEmpty && decide (c.maxStack ≤ mostOperands) && decide (meth.sig.returnType = rt) && !meth.locks && decide (parseMethodDescriptor y.desc = some meth.sig)) = true) : (Jvm.Cond.code y bytes mx rt).before a s = true := by
  simp only [Bool.and_eq_true, beq_iff_eq, Bool.not_eq_true', decide_eq_true_eq] at h5
  obtain ⟨⟨⟨⟨⟨g1, g2⟩, g3⟩, g4⟩, g5⟩, g6⟩ := h5
  simp [Cond.before, Cond.holds, Cond.value, h1, h2, h3, h4, g1, g2, g3, g4, g5, g6]
def isCode : Jvm.Cond → Bool
  | .code _ _ _ _ => true
  | _ => false
theorem all_split {L : List Jvm.Cond} {P : Jvm.Cond → Bool} (h1 : L.all (fun c => isCode c || P c) = true) (h2 : ∀ c ∈ L.filter isCode, P c = true) : L.all P = true := by
  refine List.all_eq_true.mpr fun c hc => ?_
  have h := List.all_eq_true.mp h1 c hc
  rcases Bool.eq_false_or_eq_true (isCode c) with hi | hi
  · exact h2 c (List.mem_filter.mpr ⟨hc, hi⟩)
  · simpa [hi] using h
set_option maxRecDepth 65536 in
theorem w_c0 : (Jvm.Cond.code x code maxLocals ret).before args0 about1 = true := code_word (m := ⟨1, 3⟩) (meth := k1m3) (c := k1c3) (by decide +kernel) rfl rfl rfl (by decide +kernel)
set_option maxRecDepth 65536 in
theorem w_c1 : (Jvm.Cond.code ⟨"com/example/harbinger/harbinger/Backoff", "<init>", "()V"⟩ prog_3_method_1_code (1 : Nat) (Option.none : Option Jvm.ClassFile.FieldType)).before args0 about1 = true := code_word (m := ⟨2, 0⟩) (meth := k2m0) (c := k2c0) (by decide +kernel) rfl rfl rfl (by decide +kernel)
set_option maxRecDepth 65536 in
theorem w_c2 : (Jvm.Cond.code ⟨"java/lang/Object", "<init>", "()V"⟩ object_method_1_code (1 : Nat) (Option.none : Option Jvm.ClassFile.FieldType)).before args0 about1 = true := code_word (m := ⟨0, 0⟩) (meth := k0m0) (c := k0c0) (by decide +kernel) rfl rfl rfl (by decide +kernel)
set_option maxRecDepth 65536 in
theorem w_c3 : (Jvm.Cond.code ⟨"com/example/harbinger/harbinger/Backoff", "failed", "()Ljava/time/Duration;"⟩ prog_3_method_3_code (1 : Nat) (Option.some (Jvm.ClassFile.FieldType.object "java/time/Duration"))).before args0 about1 = true := code_word (m := ⟨2, 2⟩) (meth := k2m2) (c := k2c2) (by decide +kernel) rfl rfl rfl (by decide +kernel)
set_option maxRecDepth 65536 in
theorem w_c4 : (Jvm.Cond.code ⟨"com/example/harbinger/harbinger/Backoff", "after", "(I)Ljava/time/Duration;"⟩ prog_3_method_2_code (2 : Nat) (Option.some (Jvm.ClassFile.FieldType.object "java/time/Duration"))).before args0 about1 = true := code_word (m := ⟨2, 1⟩) (meth := k2m1) (c := k2c1) (by decide +kernel) rfl rfl rfl (by decide +kernel)
set_option maxRecDepth 65536 in
theorem w_c5 : (Jvm.Cond.code ⟨"java/lang/Math", "min", "(II)I"⟩ jdk_29_method_69_code (2 : Nat) (Option.some Jvm.ClassFile.FieldType.int)).before args0 about1 = true := code_word (m := ⟨3, 5⟩) (meth := k3m5) (c := k3c5) (by decide +kernel) rfl rfl rfl (by decide +kernel)
set_option maxRecDepth 65536 in
theorem w_c6 : (Jvm.Cond.code ⟨"java/time/Duration", "multipliedBy", "(J)Ljava/time/Duration;"⟩ jdk_2316_method_44_code (3 : Nat) (Option.some (Jvm.ClassFile.FieldType.object "java/time/Duration"))).before args0 about1 = true := code_word (m := ⟨7, 5⟩) (meth := k7m5) (c := k7c5) (by decide +kernel) rfl rfl rfl (by decide +kernel)
set_option maxRecDepth 65536 in
theorem w_c7 : (Jvm.Cond.code ⟨"java/time/Duration", "compareTo", "(Ljava/time/Duration;)I"⟩ jdk_2316_method_66_code (3 : Nat) (Option.some Jvm.ClassFile.FieldType.int)).before args0 about1 = true := code_word (m := ⟨7, 8⟩) (meth := k7m8) (c := k7c8) (by decide +kernel) rfl rfl rfl (by decide +kernel)
set_option maxRecDepth 65536 in
theorem w_c8 : (Jvm.Cond.code ⟨"java/lang/Long", "compare", "(JJ)I"⟩ jdk_35_method_42_code (4 : Nat) (Option.some Jvm.ClassFile.FieldType.int)).before args0 about1 = true := code_word (m := ⟨11, 0⟩) (meth := k11m0) (c := k11c0) (by decide +kernel) rfl rfl rfl (by decide +kernel)
set_option maxRecDepth 65536 in
theorem w_c9 : (Jvm.Cond.code ⟨"com/example/harbinger/harbinger/BackoffFailedPinLaw", "matches", "(Ljava/time/Duration;I)Z"⟩ method_3_code (2 : Nat) (Option.some Jvm.ClassFile.FieldType.boolean)).before args0 about1 = true := code_word (m := ⟨1, 2⟩) (meth := k1m2) (c := k1c2) (by decide +kernel) rfl rfl rfl (by decide +kernel)
set_option maxRecDepth 65536 in
theorem w_c10 : (Jvm.Cond.code ⟨"java/time/Duration", "getSeconds", "()J"⟩ jdk_2316_method_23_code (1 : Nat) (Option.some Jvm.ClassFile.FieldType.long)).before args0 about1 = true := code_word (m := ⟨7, 3⟩) (meth := k7m3) (c := k7c3) (by decide +kernel) rfl rfl rfl (by decide +kernel)
set_option maxRecDepth 65536 in
theorem w_c11 : (Jvm.Cond.code ⟨"com/example/harbinger/harbinger/BackoffFailedPinLaw", "expectedSeconds", "(I)J"⟩ method_2_code (1 : Nat) (Option.some Jvm.ClassFile.FieldType.long)).before args0 about1 = true := code_word (m := ⟨1, 1⟩) (meth := k1m1) (c := k1c1) (by decide +kernel) rfl rfl rfl (by decide +kernel)
set_option maxRecDepth 65536 in
theorem w_c12 : (Jvm.Cond.code ⟨"java/time/Duration", "getNano", "()I"⟩ jdk_2316_method_24_code (1 : Nat) (Option.some Jvm.ClassFile.FieldType.int)).before args0 about1 = true := code_word (m := ⟨7, 4⟩) (meth := k7m4) (c := k7c4) (by decide +kernel) rfl rfl rfl (by decide +kernel)
set_option maxRecDepth 65536 in
theorem w_c13 : (Jvm.Cond.code ⟨"java/time/Duration", "toBigDecimalSeconds", "()Ljava/math/BigDecimal;"⟩ jdk_2316_method_47_code (1 : Nat) (Option.some (Jvm.ClassFile.FieldType.object "java/math/BigDecimal"))).before args0 about1 = true := code_word (m := ⟨7, 6⟩) (meth := k7m6) (c := k7c6) (by decide +kernel) rfl rfl rfl (by decide +kernel)
set_option maxRecDepth 65536 in
theorem w_c14 : (Jvm.Cond.code ⟨"java/math/BigDecimal", "valueOf", "(J)Ljava/math/BigDecimal;"⟩ jdk_17_method_21_code (2 : Nat) (Option.some (Jvm.ClassFile.FieldType.object "java/math/BigDecimal"))).before args0 about1 = true := code_word (m := ⟨12, 2⟩) (meth := k12m2) (c := k12c2) (by decide +kernel) rfl rfl rfl (by decide +kernel)
set_option maxRecDepth 65536 in
theorem w_c15 : (Jvm.Cond.code ⟨"java/math/BigDecimal", "valueOf", "(JI)Ljava/math/BigDecimal;"⟩ jdk_17_method_20_code (3 : Nat) (Option.some (Jvm.ClassFile.FieldType.object "java/math/BigDecimal"))).before args0 about1 = true := code_word (m := ⟨12, 1⟩) (meth := k12m1) (c := k12c1) (by decide +kernel) rfl rfl rfl (by decide +kernel)
set_option maxRecDepth 65536 in
theorem w_c16 : (Jvm.Cond.code ⟨"java/math/BigDecimal", "zeroValueOf", "(I)Ljava/math/BigDecimal;"⟩ jdk_17_method_24_code (1 : Nat) (Option.some (Jvm.ClassFile.FieldType.object "java/math/BigDecimal"))).before args0 about1 = true := code_word (m := ⟨12, 3⟩) (meth := k12m3) (c := k12c3) (by decide +kernel) rfl rfl rfl (by decide +kernel)
set_option maxRecDepth 65536 in
theorem w_c17 : (Jvm.Cond.code ⟨"java/math/BigDecimal", "add", "(Ljava/math/BigDecimal;)Ljava/math/BigDecimal;"⟩ jdk_17_method_26_code (2 : Nat) (Option.some (Jvm.ClassFile.FieldType.object "java/math/BigDecimal"))).before args0 about1 = true := code_word (m := ⟨12, 4⟩) (meth := k12m4) (c := k12c4) (by decide +kernel) rfl rfl rfl (by decide +kernel)
set_option maxRecDepth 65536 in
theorem w_c18 : (Jvm.Cond.code ⟨"java/math/BigDecimal", "add", "(JIJI)Ljava/math/BigDecimal;"⟩ jdk_17_method_134_code (12 : Nat) (Option.some (Jvm.ClassFile.FieldType.object "java/math/BigDecimal"))).before args0 about1 = true := code_word (m := ⟨12, 15⟩) (meth := k12m15) (c := k12c15) (by decide +kernel) rfl rfl rfl (by decide +kernel)
set_option maxRecDepth 65536 in
theorem w_c19 : (Jvm.Cond.code ⟨"java/math/BigDecimal", "checkScale", "(JJ)I"⟩ jdk_17_method_113_code (5 : Nat) (Option.some Jvm.ClassFile.FieldType.int)).before args0 about1 = true := code_word (m := ⟨12, 12⟩) (meth := k12m12) (c := k12c12) (by decide +kernel) rfl rfl rfl (by decide +kernel)
set_option maxRecDepth 65536 in
theorem w_c20 : (Jvm.Cond.code ⟨"java/math/BigDecimal", "longMultiplyPowerTen", "(JI)J"⟩ jdk_17_method_97_code (7 : Nat) (Option.some Jvm.ClassFile.FieldType.long)).before args0 about1 = true := code_word (m := ⟨12, 9⟩) (meth := k12m9) (c := k12c9) (by decide +kernel) rfl rfl rfl (by decide +kernel)
set_option maxRecDepth 65536 in
theorem w_c21 : (Jvm.Cond.code ⟨"java/math/BigDecimal", "add", "(JJI)Ljava/math/BigDecimal;"⟩ jdk_17_method_133_code (7 : Nat) (Option.some (Jvm.ClassFile.FieldType.object "java/math/BigDecimal"))).before args0 about1 = true := code_word (m := ⟨12, 14⟩) (meth := k12m14) (c := k12c14) (by decide +kernel) rfl rfl rfl (by decide +kernel)
set_option maxRecDepth 65536 in
theorem w_c22 : (Jvm.Cond.code ⟨"java/math/BigDecimal", "add", "(JJ)J"⟩ jdk_17_method_132_code (6 : Nat) (Option.some Jvm.ClassFile.FieldType.long)).before args0 about1 = true := code_word (m := ⟨12, 13⟩) (meth := k12m13) (c := k12c13) (by decide +kernel) rfl rfl rfl (by decide +kernel)
set_option maxRecDepth 65536 in
theorem w_c23 : (Jvm.Cond.code ⟨"java/math/BigDecimal", "<init>", "(Ljava/math/BigInteger;JII)V"⟩ jdk_17_method_1_code (6 : Nat) (Option.none : Option Jvm.ClassFile.FieldType)).before args0 about1 = true := code_word (m := ⟨12, 0⟩) (meth := k12m0) (c := k12c0) (by decide +kernel) rfl rfl rfl (by decide +kernel)
set_option maxRecDepth 65536 in
theorem w_c24 : (Jvm.Cond.code ⟨"java/lang/Number", "<init>", "()V"⟩ jdk_18_method_1_code (1 : Nat) (Option.none : Option Jvm.ClassFile.FieldType)).before args0 about1 = true := code_word (m := ⟨8, 0⟩) (meth := k8m0) (c := k8c0) (by decide +kernel) rfl rfl rfl (by decide +kernel)
set_option maxRecDepth 65536 in
theorem w_c25 : (Jvm.Cond.code ⟨"java/math/BigDecimal", "multiply", "(Ljava/math/BigDecimal;)Ljava/math/BigDecimal;"⟩ jdk_17_method_31_code (3 : Nat) (Option.some (Jvm.ClassFile.FieldType.object "java/math/BigDecimal"))).before args0 about1 = true := code_word (m := ⟨12, 5⟩) (meth := k12m5) (c := k12c5) (by decide +kernel) rfl rfl rfl (by decide +kernel)
set_option maxRecDepth 65536 in
theorem w_c26 : (Jvm.Cond.code ⟨"java/math/BigDecimal", "checkScale", "(J)I"⟩ jdk_17_method_106_code (5 : Nat) (Option.some Jvm.ClassFile.FieldType.int)).before args0 about1 = true := code_word (m := ⟨12, 11⟩) (meth := k12m11) (c := k12c11) (by decide +kernel) rfl rfl rfl (by decide +kernel)
set_option maxRecDepth 65536 in
theorem w_c27 : (Jvm.Cond.code ⟨"java/math/BigDecimal", "multiply", "(JJI)Ljava/math/BigDecimal;"⟩ jdk_17_method_157_code (7 : Nat) (Option.some (Jvm.ClassFile.FieldType.object "java/math/BigDecimal"))).before args0 about1 = true := code_word (m := ⟨12, 17⟩) (meth := k12m17) (c := k12c17) (by decide +kernel) rfl rfl rfl (by decide +kernel)
set_option maxRecDepth 65536 in
theorem w_c28 : (Jvm.Cond.code ⟨"java/math/BigDecimal", "multiply", "(JJ)J"⟩ jdk_17_method_156_code (10 : Nat) (Option.some Jvm.ClassFile.FieldType.long)).before args0 about1 = true := code_word (m := ⟨12, 16⟩) (meth := k12m16) (c := k12c16) (by decide +kernel) rfl rfl rfl (by decide +kernel)
set_option maxRecDepth 65536 in
theorem w_c29 : (Jvm.Cond.code ⟨"java/lang/Math", "abs", "(J)J"⟩ jdk_29_method_61_code (2 : Nat) (Option.some Jvm.ClassFile.FieldType.long)).before args0 about1 = true := code_word (m := ⟨3, 4⟩) (meth := k3m4) (c := k3c4) (by decide +kernel) rfl rfl rfl (by decide +kernel)
set_option maxRecDepth 65536 in
theorem w_c30 : (Jvm.Cond.code ⟨"java/time/Duration", "create", "(Ljava/math/BigDecimal;)Ljava/time/Duration;"⟩ jdk_2316_method_48_code (3 : Nat) (Option.some (Jvm.ClassFile.FieldType.object "java/time/Duration"))).before args0 about1 = true := code_word (m := ⟨7, 7⟩) (meth := k7m7) (c := k7c7) (by decide +kernel) rfl rfl rfl (by decide +kernel)
set_option maxRecDepth 65536 in
theorem w_c31 : (Jvm.Cond.code ⟨"java/math/BigDecimal", "movePointRight", "(I)Ljava/math/BigDecimal;"⟩ jdk_17_method_67_code (4 : Nat) (Option.some (Jvm.ClassFile.FieldType.object "java/math/BigDecimal"))).before args0 about1 = true := code_word (m := ⟨12, 7⟩) (meth := k12m7) (c := k12c7) (by decide +kernel) rfl rfl rfl (by decide +kernel)
set_option maxRecDepth 65536 in
theorem w_c32 : (Jvm.Cond.code ⟨"java/math/BigDecimal", "toBigIntegerExact", "()Ljava/math/BigInteger;"⟩ jdk_17_method_81_code (1 : Nat) (Option.some (Jvm.ClassFile.FieldType.object "java/math/BigInteger"))).before args0 about1 = true := code_word (m := ⟨12, 8⟩) (meth := k12m8) (c := k12c8) (by decide +kernel) rfl rfl rfl (by decide +kernel)
set_option maxRecDepth 65536 in
theorem w_c33 : (Jvm.Cond.code ⟨"java/math/BigDecimal", "setScale", "(II)Ljava/math/BigDecimal;"⟩ jdk_17_method_64_code (8 : Nat) (Option.some (Jvm.ClassFile.FieldType.object "java/math/BigDecimal"))).before args0 about1 = true := code_word (m := ⟨12, 6⟩) (meth := k12m6) (c := k12c6) (by decide +kernel) rfl rfl rfl (by decide +kernel)
set_option maxRecDepth 65536 in
theorem w_c34 : (Jvm.Cond.code ⟨"java/math/BigDecimal", "inflated", "()Ljava/math/BigInteger;"⟩ jdk_17_method_99_code (1 : Nat) (Option.some (Jvm.ClassFile.FieldType.object "java/math/BigInteger"))).before args0 about1 = true := code_word (m := ⟨12, 10⟩) (meth := k12m10) (c := k12c10) (by decide +kernel) rfl rfl rfl (by decide +kernel)
set_option maxRecDepth 65536 in
theorem w_c35 : (Jvm.Cond.code ⟨"java/math/BigInteger", "valueOf", "(J)Ljava/math/BigInteger;"⟩ jdk_2097_method_29_code (2 : Nat) (Option.some (Jvm.ClassFile.FieldType.object "java/math/BigInteger"))).before args0 about1 = true := code_word (m := ⟨13, 1⟩) (meth := k13m1) (c := k13c1) (by decide +kernel) rfl rfl rfl (by decide +kernel)
set_option maxRecDepth 65536 in
theorem w_c36 : (Jvm.Cond.code ⟨"java/math/BigInteger", "<init>", "(J)V"⟩ jdk_2097_method_30_code (4 : Nat) (Option.none : Option Jvm.ClassFile.FieldType)).before args0 about1 = true := code_word (m := ⟨13, 2⟩) (meth := k13m2) (c := k13c2) (by decide +kernel) rfl rfl rfl (by decide +kernel)
set_option maxRecDepth 65536 in
theorem w_c37 : (Jvm.Cond.code ⟨"java/math/BigInteger", "divideAndRemainder", "(Ljava/math/BigInteger;)[Ljava/math/BigInteger;"⟩ jdk_2097_method_63_code (2 : Nat) (Option.some (Jvm.ClassFile.FieldType.array (Jvm.ClassFile.FieldType.object "java/math/BigInteger")))).before args0 about1 = true := code_word (m := ⟨13, 3⟩) (meth := k13m3) (c := k13c3) (by decide +kernel) rfl rfl rfl (by decide +kernel)
set_option maxRecDepth 65536 in
theorem w_c38 : (Jvm.Cond.code ⟨"java/math/BigInteger", "divideAndRemainderKnuth", "(Ljava/math/BigInteger;)[Ljava/math/BigInteger;"⟩ jdk_2097_method_64_code (7 : Nat) (Option.some (Jvm.ClassFile.FieldType.array (Jvm.ClassFile.FieldType.object "java/math/BigInteger")))).before args0 about1 = true := code_word (m := ⟨13, 4⟩) (meth := k13m4) (c := k13c4) (by decide +kernel) rfl rfl rfl (by decide +kernel)
set_option maxRecDepth 65536 in
theorem w_c39 : (Jvm.Cond.code ⟨"java/math/MutableBigInteger", "<init>", "()V"⟩ jdk_2101_method_1_code (1 : Nat) (Option.none : Option Jvm.ClassFile.FieldType)).before args0 about1 = true := code_word (m := ⟨14, 0⟩) (meth := k14m0) (c := k14c0) (by decide +kernel) rfl rfl rfl (by decide +kernel)
set_option maxRecDepth 65536 in
theorem w_c40 : (Jvm.Cond.code ⟨"java/math/MutableBigInteger", "<init>", "([I)V"⟩ jdk_2101_method_3_code (2 : Nat) (Option.none : Option Jvm.ClassFile.FieldType)).before args0 about1 = true := code_word (m := ⟨14, 1⟩) (meth := k14m1) (c := k14c1) (by decide +kernel) rfl rfl rfl (by decide +kernel)
set_option maxRecDepth 65536 in
theorem w_c41 : (Jvm.Cond.code ⟨"java/math/MutableBigInteger", "divideKnuth", "(Ljava/math/MutableBigInteger;Ljava/math/MutableBigInteger;)Ljava/math/MutableBigInteger;"⟩ jdk_2101_method_56_code (3 : Nat) (Option.some (Jvm.ClassFile.FieldType.object "java/math/MutableBigInteger"))).before args0 about1 = true := code_word (m := ⟨14, 8⟩) (meth := k14m8) (c := k14c8) (by decide +kernel) rfl rfl rfl (by decide +kernel)
set_option maxRecDepth 65536 in
theorem w_c42 : (Jvm.Cond.code ⟨"java/math/MutableBigInteger", "divideKnuth", "(Ljava/math/MutableBigInteger;Ljava/math/MutableBigInteger;Z)Ljava/math/MutableBigInteger;"⟩ jdk_2101_method_57_code (8 : Nat) (Option.some (Jvm.ClassFile.FieldType.object "java/math/MutableBigInteger"))).before args0 about1 = true := code_word (m := ⟨14, 9⟩) (meth := k14m9) (c := k14c9) (by decide +kernel) rfl rfl rfl (by decide +kernel)
set_option maxRecDepth 65536 in
theorem w_c43 : (Jvm.Cond.code ⟨"java/math/MutableBigInteger", "compare", "(Ljava/math/MutableBigInteger;)I"⟩ jdk_2101_method_15_code (8 : Nat) (Option.some Jvm.ClassFile.FieldType.int)).before args0 about1 = true := code_word (m := ⟨14, 5⟩) (meth := k14m5) (c := k14c5) (by decide +kernel) rfl rfl rfl (by decide +kernel)
set_option maxRecDepth 65536 in
theorem w_c44 : (Jvm.Cond.code ⟨"java/math/MutableBigInteger", "clear", "()V"⟩ jdk_2101_method_13_code (3 : Nat) (Option.none : Option Jvm.ClassFile.FieldType)).before args0 about1 = true := code_word (m := ⟨14, 4⟩) (meth := k14m4) (c := k14c4) (by decide +kernel) rfl rfl rfl (by decide +kernel)
set_option maxRecDepth 65536 in
theorem w_c45 : (Jvm.Cond.code ⟨"java/math/MutableBigInteger", "divideOneWord", "(ILjava/math/MutableBigInteger;)I"⟩ jdk_2101_method_53_code (15 : Nat) (Option.some Jvm.ClassFile.FieldType.int)).before args0 about1 = true := code_word (m := ⟨14, 7⟩) (meth := k14m7) (c := k14c7) (by decide +kernel) rfl rfl rfl (by decide +kernel)
set_option maxRecDepth 65536 in
theorem w_c46 : (Jvm.Cond.code ⟨"java/math/MutableBigInteger", "toBigInteger", "(I)Ljava/math/BigInteger;"⟩ jdk_2101_method_9_code (2 : Nat) (Option.some (Jvm.ClassFile.FieldType.object "java/math/BigInteger"))).before args0 about1 = true := code_word (m := ⟨14, 3⟩) (meth := k14m3) (c := k14c3) (by decide +kernel) rfl rfl rfl (by decide +kernel)
set_option maxRecDepth 65536 in
theorem w_c47 : (Jvm.Cond.code ⟨"java/math/MutableBigInteger", "getMagnitudeArray", "()[I"⟩ jdk_2101_method_7_code (2 : Nat) (Option.some (Jvm.ClassFile.FieldType.array Jvm.ClassFile.FieldType.int))).before args0 about1 = true := code_word (m := ⟨14, 2⟩) (meth := k14m2) (c := k14c2) (by decide +kernel) rfl rfl rfl (by decide +kernel)
set_option maxRecDepth 65536 in
theorem w_c48 : (Jvm.Cond.code ⟨"java/math/BigInteger", "<init>", "([II)V"⟩ jdk_2097_method_25_code (3 : Nat) (Option.none : Option Jvm.ClassFile.FieldType)).before args0 about1 = true := code_word (m := ⟨13, 0⟩) (meth := k13m0) (c := k13c0) (by decide +kernel) rfl rfl rfl (by decide +kernel)
set_option maxRecDepth 65536 in
theorem w_c49 : (Jvm.Cond.code ⟨"java/math/BigInteger", "bitLength", "()I"⟩ jdk_2097_method_118_code (7 : Nat) (Option.some Jvm.ClassFile.FieldType.int)).before args0 about1 = true := code_word (m := ⟨13, 6⟩) (meth := k13m6) (c := k13c6) (by decide +kernel) rfl rfl rfl (by decide +kernel)
set_option maxRecDepth 65536 in
theorem w_c50 : (Jvm.Cond.code ⟨"java/math/BigInteger", "bitLengthForInt", "(I)I"⟩ jdk_2097_method_74_code (1 : Nat) (Option.some Jvm.ClassFile.FieldType.int)).before args0 about1 = true := code_word (m := ⟨13, 5⟩) (meth := k13m5) (c := k13c5) (by decide +kernel) rfl rfl rfl (by decide +kernel)
set_option maxRecDepth 65536 in
theorem w_c51 : (Jvm.Cond.code ⟨"java/lang/Integer", "numberOfLeadingZeros", "(I)I"⟩ jdk_33_method_47_code (2 : Nat) (Option.some Jvm.ClassFile.FieldType.int)).before args0 about1 = true := code_word (m := ⟨15, 0⟩) (meth := k15m0) (c := k15c0) (by decide +kernel) rfl rfl rfl (by decide +kernel)
set_option maxRecDepth 65536 in
theorem w_c52 : (Jvm.Cond.code ⟨"java/math/BigInteger", "longValue", "()J"⟩ jdk_2097_method_136_code (4 : Nat) (Option.some Jvm.ClassFile.FieldType.long)).before args0 about1 = true := code_word (m := ⟨13, 8⟩) (meth := k13m8) (c := k13c8) (by decide +kernel) rfl rfl rfl (by decide +kernel)
set_option maxRecDepth 65536 in
theorem w_c53 : (Jvm.Cond.code ⟨"java/math/BigInteger", "getInt", "(I)I"⟩ jdk_2097_method_148_code (3 : Nat) (Option.some Jvm.ClassFile.FieldType.int)).before args0 about1 = true := code_word (m := ⟨13, 10⟩) (meth := k13m10) (c := k13c10) (by decide +kernel) rfl rfl rfl (by decide +kernel)
set_option maxRecDepth 65536 in
theorem w_c54 : (Jvm.Cond.code ⟨"java/math/BigInteger", "signInt", "()I"⟩ jdk_2097_method_147_code (1 : Nat) (Option.some Jvm.ClassFile.FieldType.int)).before args0 about1 = true := code_word (m := ⟨13, 9⟩) (meth := k13m9) (c := k13c9) (by decide +kernel) rfl rfl rfl (by decide +kernel)
set_option maxRecDepth 65536 in
theorem w_c55 : (Jvm.Cond.code ⟨"java/math/BigInteger", "intValue", "()I"⟩ jdk_2097_method_135_code (2 : Nat) (Option.some Jvm.ClassFile.FieldType.int)).before args0 about1 = true := code_word (m := ⟨13, 7⟩) (meth := k13m7) (c := k13c7) (by decide +kernel) rfl rfl rfl (by decide +kernel)
set_option maxRecDepth 65536 in
theorem w_c56 : (Jvm.Cond.code ⟨"java/time/Duration", "ofSeconds", "(JJ)Ljava/time/Duration;"⟩ jdk_2316_method_5_code (7 : Nat) (Option.some (Jvm.ClassFile.FieldType.object "java/time/Duration"))).before args0 about1 = true := code_word (m := ⟨7, 0⟩) (meth := k7m0) (c := k7c0) (by decide +kernel) rfl rfl rfl (by decide +kernel)
set_option maxRecDepth 65536 in
theorem w_c57 : (Jvm.Cond.code ⟨"java/lang/Math", "floorDiv", "(JJ)J"⟩ jdk_29_method_49_code (6 : Nat) (Option.some Jvm.ClassFile.FieldType.long)).before args0 about1 = true := code_word (m := ⟨3, 2⟩) (meth := k3m2) (c := k3c2) (by decide +kernel) rfl rfl rfl (by decide +kernel)
set_option maxRecDepth 65536 in
theorem w_c58 : (Jvm.Cond.code ⟨"java/lang/Math", "addExact", "(JJ)J"⟩ jdk_29_method_25_code (6 : Nat) (Option.some Jvm.ClassFile.FieldType.long)).before args0 about1 = true := code_word (m := ⟨3, 1⟩) (meth := k3m1) (c := k3c1) (by decide +kernel) rfl rfl rfl (by decide +kernel)
set_option maxRecDepth 65536 in
theorem w_c59 : (Jvm.Cond.code ⟨"java/lang/Math", "floorMod", "(JJ)J"⟩ jdk_29_method_52_code (6 : Nat) (Option.some Jvm.ClassFile.FieldType.long)).before args0 about1 = true := code_word (m := ⟨3, 3⟩) (meth := k3m3) (c := k3c3) (by decide +kernel) rfl rfl rfl (by decide +kernel)
set_option maxRecDepth 65536 in
theorem w_c60 : (Jvm.Cond.code ⟨"java/time/Duration", "create", "(JI)Ljava/time/Duration;"⟩ jdk_2316_method_16_code (3 : Nat) (Option.some (Jvm.ClassFile.FieldType.object "java/time/Duration"))).before args0 about1 = true := code_word (m := ⟨7, 1⟩) (meth := k7m1) (c := k7c1) (by decide +kernel) rfl rfl rfl (by decide +kernel)
set_option maxRecDepth 65536 in
theorem w_c61 : (Jvm.Cond.code ⟨"java/time/Duration", "<init>", "(JI)V"⟩ jdk_2316_method_17_code (4 : Nat) (Option.none : Option Jvm.ClassFile.FieldType)).before args0 about1 = true := code_word (m := ⟨7, 2⟩) (meth := k7m2) (c := k7c2) (by decide +kernel) rfl rfl rfl (by decide +kernel)
set_option maxRecDepth 65536 in
theorem w_c62 : (Jvm.Cond.code ⟨"java/math/MutableBigInteger", "normalize", "()V"⟩ jdk_2101_method_21_code (4 : Nat) (Option.none : Option Jvm.ClassFile.FieldType)).before args0 about1 = true := code_word (m := ⟨14, 6⟩) (meth := k14m6) (c := k14c6) (by decide +kernel) rfl rfl rfl (by decide +kernel)
set_option maxRecDepth 65536 in
theorem w_c63 : (Jvm.Cond.code ⟨"java/util/Arrays", "copyOfRange", "([III)[I"⟩ jdk_65_method_136_code (3 : Nat) (Option.some (Jvm.ClassFile.FieldType.array Jvm.ClassFile.FieldType.int))).before args0 about1 = true := code_word (m := ⟨16, 3⟩) (meth := k16m3) (c := k16c3) (by decide +kernel) rfl rfl rfl (by decide +kernel)
set_option maxRecDepth 65536 in
theorem w_c64 : (Jvm.Cond.code ⟨"java/util/Arrays", "copyOfRangeInt", "([III)[I"⟩ jdk_65_method_137_code (5 : Nat) (Option.some (Jvm.ClassFile.FieldType.array Jvm.ClassFile.FieldType.int))).before args0 about1 = true := code_word (m := ⟨16, 4⟩) (meth := k16m4) (c := k16c4) (by decide +kernel) rfl rfl rfl (by decide +kernel)
set_option maxRecDepth 65536 in
theorem w_c65 : (Jvm.Cond.code ⟨"java/util/Arrays", "checkLength", "(II)V"⟩ jdk_65_method_131_code (2 : Nat) (Option.none : Option Jvm.ClassFile.FieldType)).before args0 about1 = true := code_word (m := ⟨16, 2⟩) (meth := k16m2) (c := k16c2) (by decide +kernel) rfl rfl rfl (by decide +kernel)
set_option maxRecDepth 65536 in
theorem w_c66 : (Jvm.Cond.code ⟨"java/util/Arrays", "fill", "([II)V"⟩ jdk_65_method_103_code (4 : Nat) (Option.none : Option Jvm.ClassFile.FieldType)).before args0 about1 = true := code_word (m := ⟨16, 1⟩) (meth := k16m1) (c := k16c1) (by decide +kernel) rfl rfl rfl (by decide +kernel)
set_option maxRecDepth 65536 in
theorem w_c67 : (Jvm.Cond.code ⟨"com/example/harbinger/harbinger/Backoff", "succeeded", "()V"⟩ prog_3_method_4_code (1 : Nat) (Option.none : Option Jvm.ClassFile.FieldType)).before args0 about1 = true := code_word (m := ⟨2, 3⟩) (meth := k2m3) (c := k2c3) (by decide +kernel) rfl rfl rfl (by decide +kernel)
def codes1 : List Jvm.Cond := [Jvm.Cond.code x code maxLocals ret, Jvm.Cond.code ⟨"com/example/harbinger/harbinger/Backoff", "<init>", "()V"⟩ prog_3_method_1_code (1 : Nat) (Option.none : Option Jvm.ClassFile.FieldType), Jvm.Cond.code ⟨"java/lang/Object", "<init>", "()V"⟩ object_method_1_code (1 : Nat) (Option.none : Option Jvm.ClassFile.FieldType), Jvm.Cond.code ⟨"com/example/harbinger/harbinger/Backoff", "failed", "()Ljava/time/Duration;"⟩ prog_3_method_3_code (1 : Nat) (Option.some (Jvm.ClassFile.FieldType.object "java/time/Duration")), Jvm.Cond.code ⟨"com/example/harbinger/harbinger/Backoff", "after", "(I)Ljava/time/Duration;"⟩ prog_3_method_2_code (2 : Nat) (Option.some (Jvm.ClassFile.FieldType.object "java/time/Duration")), Jvm.Cond.code ⟨"java/lang/Math", "min", "(II)I"⟩ jdk_29_method_69_code (2 : Nat) (Option.some Jvm.ClassFile.FieldType.int), Jvm.Cond.code ⟨"java/time/Duration", "multipliedBy", "(J)Ljava/time/Duration;"⟩ jdk_2316_method_44_code (3 : Nat) (Option.some (Jvm.ClassFile.FieldType.object "java/time/Duration")), Jvm.Cond.code ⟨"java/time/Duration", "compareTo", "(Ljava/time/Duration;)I"⟩ jdk_2316_method_66_code (3 : Nat) (Option.some Jvm.ClassFile.FieldType.int), Jvm.Cond.code ⟨"java/lang/Long", "compare", "(JJ)I"⟩ jdk_35_method_42_code (4 : Nat) (Option.some Jvm.ClassFile.FieldType.int), Jvm.Cond.code ⟨"com/example/harbinger/harbinger/BackoffFailedPinLaw", "matches", "(Ljava/time/Duration;I)Z"⟩ method_3_code (2 : Nat) (Option.some Jvm.ClassFile.FieldType.boolean), Jvm.Cond.code ⟨"java/time/Duration", "getSeconds", "()J"⟩ jdk_2316_method_23_code (1 : Nat) (Option.some Jvm.ClassFile.FieldType.long), Jvm.Cond.code ⟨"com/example/harbinger/harbinger/BackoffFailedPinLaw", "expectedSeconds", "(I)J"⟩ method_2_code (1 : Nat) (Option.some Jvm.ClassFile.FieldType.long), Jvm.Cond.code ⟨"java/time/Duration", "getNano", "()I"⟩ jdk_2316_method_24_code (1 : Nat) (Option.some Jvm.ClassFile.FieldType.int), Jvm.Cond.code ⟨"java/time/Duration", "toBigDecimalSeconds", "()Ljava/math/BigDecimal;"⟩ jdk_2316_method_47_code (1 : Nat) (Option.some (Jvm.ClassFile.FieldType.object "java/math/BigDecimal")), Jvm.Cond.code ⟨"java/math/BigDecimal", "valueOf", "(J)Ljava/math/BigDecimal;"⟩ jdk_17_method_21_code (2 : Nat) (Option.some (Jvm.ClassFile.FieldType.object "java/math/BigDecimal")), Jvm.Cond.code ⟨"java/math/BigDecimal", "valueOf", "(JI)Ljava/math/BigDecimal;"⟩ jdk_17_method_20_code (3 : Nat) (Option.some (Jvm.ClassFile.FieldType.object "java/math/BigDecimal")), Jvm.Cond.code ⟨"java/math/BigDecimal", "zeroValueOf", "(I)Ljava/math/BigDecimal;"⟩ jdk_17_method_24_code (1 : Nat) (Option.some (Jvm.ClassFile.FieldType.object "java/math/BigDecimal")), Jvm.Cond.code ⟨"java/math/BigDecimal", "add", "(Ljava/math/BigDecimal;)Ljava/math/BigDecimal;"⟩ jdk_17_method_26_code (2 : Nat) (Option.some (Jvm.ClassFile.FieldType.object "java/math/BigDecimal")), Jvm.Cond.code ⟨"java/math/BigDecimal", "add", "(JIJI)Ljava/math/BigDecimal;"⟩ jdk_17_method_134_code (12 : Nat) (Option.some (Jvm.ClassFile.FieldType.object "java/math/BigDecimal")), Jvm.Cond.code ⟨"java/math/BigDecimal", "checkScale", "(JJ)I"⟩ jdk_17_method_113_code (5 : Nat) (Option.some Jvm.ClassFile.FieldType.int), Jvm.Cond.code ⟨"java/math/BigDecimal", "longMultiplyPowerTen", "(JI)J"⟩ jdk_17_method_97_code (7 : Nat) (Option.some Jvm.ClassFile.FieldType.long), Jvm.Cond.code ⟨"java/math/BigDecimal", "add", "(JJI)Ljava/math/BigDecimal;"⟩ jdk_17_method_133_code (7 : Nat) (Option.some (Jvm.ClassFile.FieldType.object "java/math/BigDecimal")), Jvm.Cond.code ⟨"java/math/BigDecimal", "add", "(JJ)J"⟩ jdk_17_method_132_code (6 : Nat) (Option.some Jvm.ClassFile.FieldType.long), Jvm.Cond.code ⟨"java/math/BigDecimal", "<init>", "(Ljava/math/BigInteger;JII)V"⟩ jdk_17_method_1_code (6 : Nat) (Option.none : Option Jvm.ClassFile.FieldType), Jvm.Cond.code ⟨"java/lang/Number", "<init>", "()V"⟩ jdk_18_method_1_code (1 : Nat) (Option.none : Option Jvm.ClassFile.FieldType), Jvm.Cond.code ⟨"java/math/BigDecimal", "multiply", "(Ljava/math/BigDecimal;)Ljava/math/BigDecimal;"⟩ jdk_17_method_31_code (3 : Nat) (Option.some (Jvm.ClassFile.FieldType.object "java/math/BigDecimal")), Jvm.Cond.code ⟨"java/math/BigDecimal", "checkScale", "(J)I"⟩ jdk_17_method_106_code (5 : Nat) (Option.some Jvm.ClassFile.FieldType.int), Jvm.Cond.code ⟨"java/math/BigDecimal", "multiply", "(JJI)Ljava/math/BigDecimal;"⟩ jdk_17_method_157_code (7 : Nat) (Option.some (Jvm.ClassFile.FieldType.object "java/math/BigDecimal")), Jvm.Cond.code ⟨"java/math/BigDecimal", "multiply", "(JJ)J"⟩ jdk_17_method_156_code (10 : Nat) (Option.some Jvm.ClassFile.FieldType.long), Jvm.Cond.code ⟨"java/lang/Math", "abs", "(J)J"⟩ jdk_29_method_61_code (2 : Nat) (Option.some Jvm.ClassFile.FieldType.long), Jvm.Cond.code ⟨"java/time/Duration", "create", "(Ljava/math/BigDecimal;)Ljava/time/Duration;"⟩ jdk_2316_method_48_code (3 : Nat) (Option.some (Jvm.ClassFile.FieldType.object "java/time/Duration")), Jvm.Cond.code ⟨"java/math/BigDecimal", "movePointRight", "(I)Ljava/math/BigDecimal;"⟩ jdk_17_method_67_code (4 : Nat) (Option.some (Jvm.ClassFile.FieldType.object "java/math/BigDecimal")), Jvm.Cond.code ⟨"java/math/BigDecimal", "toBigIntegerExact", "()Ljava/math/BigInteger;"⟩ jdk_17_method_81_code (1 : Nat) (Option.some (Jvm.ClassFile.FieldType.object "java/math/BigInteger")), Jvm.Cond.code ⟨"java/math/BigDecimal", "setScale", "(II)Ljava/math/BigDecimal;"⟩ jdk_17_method_64_code (8 : Nat) (Option.some (Jvm.ClassFile.FieldType.object "java/math/BigDecimal")), Jvm.Cond.code ⟨"java/math/BigDecimal", "inflated", "()Ljava/math/BigInteger;"⟩ jdk_17_method_99_code (1 : Nat) (Option.some (Jvm.ClassFile.FieldType.object "java/math/BigInteger")), Jvm.Cond.code ⟨"java/math/BigInteger", "valueOf", "(J)Ljava/math/BigInteger;"⟩ jdk_2097_method_29_code (2 : Nat) (Option.some (Jvm.ClassFile.FieldType.object "java/math/BigInteger")), Jvm.Cond.code ⟨"java/math/BigInteger", "<init>", "(J)V"⟩ jdk_2097_method_30_code (4 : Nat) (Option.none : Option Jvm.ClassFile.FieldType), Jvm.Cond.code ⟨"java/math/BigInteger", "divideAndRemainder", "(Ljava/math/BigInteger;)[Ljava/math/BigInteger;"⟩ jdk_2097_method_63_code (2 : Nat) (Option.some (Jvm.ClassFile.FieldType.array (Jvm.ClassFile.FieldType.object "java/math/BigInteger"))), Jvm.Cond.code ⟨"java/math/BigInteger", "divideAndRemainderKnuth", "(Ljava/math/BigInteger;)[Ljava/math/BigInteger;"⟩ jdk_2097_method_64_code (7 : Nat) (Option.some (Jvm.ClassFile.FieldType.array (Jvm.ClassFile.FieldType.object "java/math/BigInteger"))), Jvm.Cond.code ⟨"java/math/MutableBigInteger", "<init>", "()V"⟩ jdk_2101_method_1_code (1 : Nat) (Option.none : Option Jvm.ClassFile.FieldType), Jvm.Cond.code ⟨"java/math/MutableBigInteger", "<init>", "([I)V"⟩ jdk_2101_method_3_code (2 : Nat) (Option.none : Option Jvm.ClassFile.FieldType), Jvm.Cond.code ⟨"java/math/MutableBigInteger", "divideKnuth", "(Ljava/math/MutableBigInteger;Ljava/math/MutableBigInteger;)Ljava/math/MutableBigInteger;"⟩ jdk_2101_method_56_code (3 : Nat) (Option.some (Jvm.ClassFile.FieldType.object "java/math/MutableBigInteger")), Jvm.Cond.code ⟨"java/math/MutableBigInteger", "divideKnuth", "(Ljava/math/MutableBigInteger;Ljava/math/MutableBigInteger;Z)Ljava/math/MutableBigInteger;"⟩ jdk_2101_method_57_code (8 : Nat) (Option.some (Jvm.ClassFile.FieldType.object "java/math/MutableBigInteger")), Jvm.Cond.code ⟨"java/math/MutableBigInteger", "compare", "(Ljava/math/MutableBigInteger;)I"⟩ jdk_2101_method_15_code (8 : Nat) (Option.some Jvm.ClassFile.FieldType.int), Jvm.Cond.code ⟨"java/math/MutableBigInteger", "clear", "()V"⟩ jdk_2101_method_13_code (3 : Nat) (Option.none : Option Jvm.ClassFile.FieldType), Jvm.Cond.code ⟨"java/math/MutableBigInteger", "divideOneWord", "(ILjava/math/MutableBigInteger;)I"⟩ jdk_2101_method_53_code (15 : Nat) (Option.some Jvm.ClassFile.FieldType.int), Jvm.Cond.code ⟨"java/math/MutableBigInteger", "toBigInteger", "(I)Ljava/math/BigInteger;"⟩ jdk_2101_method_9_code (2 : Nat) (Option.some (Jvm.ClassFile.FieldType.object "java/math/BigInteger")), Jvm.Cond.code ⟨"java/math/MutableBigInteger", "getMagnitudeArray", "()[I"⟩ jdk_2101_method_7_code (2 : Nat) (Option.some (Jvm.ClassFile.FieldType.array Jvm.ClassFile.FieldType.int)), Jvm.Cond.code ⟨"java/math/BigInteger", "<init>", "([II)V"⟩ jdk_2097_method_25_code (3 : Nat) (Option.none : Option Jvm.ClassFile.FieldType), Jvm.Cond.code ⟨"java/math/BigInteger", "bitLength", "()I"⟩ jdk_2097_method_118_code (7 : Nat) (Option.some Jvm.ClassFile.FieldType.int), Jvm.Cond.code ⟨"java/math/BigInteger", "bitLengthForInt", "(I)I"⟩ jdk_2097_method_74_code (1 : Nat) (Option.some Jvm.ClassFile.FieldType.int), Jvm.Cond.code ⟨"java/lang/Integer", "numberOfLeadingZeros", "(I)I"⟩ jdk_33_method_47_code (2 : Nat) (Option.some Jvm.ClassFile.FieldType.int), Jvm.Cond.code ⟨"java/math/BigInteger", "longValue", "()J"⟩ jdk_2097_method_136_code (4 : Nat) (Option.some Jvm.ClassFile.FieldType.long), Jvm.Cond.code ⟨"java/math/BigInteger", "getInt", "(I)I"⟩ jdk_2097_method_148_code (3 : Nat) (Option.some Jvm.ClassFile.FieldType.int), Jvm.Cond.code ⟨"java/math/BigInteger", "signInt", "()I"⟩ jdk_2097_method_147_code (1 : Nat) (Option.some Jvm.ClassFile.FieldType.int), Jvm.Cond.code ⟨"java/math/BigInteger", "intValue", "()I"⟩ jdk_2097_method_135_code (2 : Nat) (Option.some Jvm.ClassFile.FieldType.int), Jvm.Cond.code ⟨"java/time/Duration", "ofSeconds", "(JJ)Ljava/time/Duration;"⟩ jdk_2316_method_5_code (7 : Nat) (Option.some (Jvm.ClassFile.FieldType.object "java/time/Duration")), Jvm.Cond.code ⟨"java/lang/Math", "floorDiv", "(JJ)J"⟩ jdk_29_method_49_code (6 : Nat) (Option.some Jvm.ClassFile.FieldType.long), Jvm.Cond.code ⟨"java/lang/Math", "addExact", "(JJ)J"⟩ jdk_29_method_25_code (6 : Nat) (Option.some Jvm.ClassFile.FieldType.long), Jvm.Cond.code ⟨"java/lang/Math", "floorMod", "(JJ)J"⟩ jdk_29_method_52_code (6 : Nat) (Option.some Jvm.ClassFile.FieldType.long), Jvm.Cond.code ⟨"java/time/Duration", "create", "(JI)Ljava/time/Duration;"⟩ jdk_2316_method_16_code (3 : Nat) (Option.some (Jvm.ClassFile.FieldType.object "java/time/Duration")), Jvm.Cond.code ⟨"java/time/Duration", "<init>", "(JI)V"⟩ jdk_2316_method_17_code (4 : Nat) (Option.none : Option Jvm.ClassFile.FieldType), Jvm.Cond.code ⟨"java/math/MutableBigInteger", "normalize", "()V"⟩ jdk_2101_method_21_code (4 : Nat) (Option.none : Option Jvm.ClassFile.FieldType), Jvm.Cond.code ⟨"java/util/Arrays", "copyOfRange", "([III)[I"⟩ jdk_65_method_136_code (3 : Nat) (Option.some (Jvm.ClassFile.FieldType.array Jvm.ClassFile.FieldType.int)), Jvm.Cond.code ⟨"java/util/Arrays", "copyOfRangeInt", "([III)[I"⟩ jdk_65_method_137_code (5 : Nat) (Option.some (Jvm.ClassFile.FieldType.array Jvm.ClassFile.FieldType.int)), Jvm.Cond.code ⟨"java/util/Arrays", "checkLength", "(II)V"⟩ jdk_65_method_131_code (2 : Nat) (Option.none : Option Jvm.ClassFile.FieldType), Jvm.Cond.code ⟨"java/util/Arrays", "fill", "([II)V"⟩ jdk_65_method_103_code (4 : Nat) (Option.none : Option Jvm.ClassFile.FieldType), Jvm.Cond.code ⟨"com/example/harbinger/harbinger/Backoff", "succeeded", "()V"⟩ prog_3_method_4_code (1 : Nat) (Option.none : Option Jvm.ClassFile.FieldType)]
set_option maxRecDepth 65536 in
theorem codes_eq : words1.filter isCode = codes1 := rfl
theorem w_codes : ∀ c ∈ words1.filter isCode, c.before args0 about1 = true := by
  rw [codes_eq]
  intro c hc
  simp only [codes1, List.mem_cons, List.not_mem_nil, or_false] at hc
  rcases hc with rfl | rfl | rfl | rfl | rfl | rfl | rfl | rfl | rfl | rfl | rfl | rfl | rfl | rfl | rfl | rfl | rfl | rfl | rfl | rfl | rfl | rfl | rfl | rfl | rfl | rfl | rfl | rfl | rfl | rfl | rfl | rfl | rfl | rfl | rfl | rfl | rfl | rfl | rfl | rfl | rfl | rfl | rfl | rfl | rfl | rfl | rfl | rfl | rfl | rfl | rfl | rfl | rfl | rfl | rfl | rfl | rfl | rfl | rfl | rfl | rfl | rfl | rfl | rfl | rfl | rfl | rfl | rfl
  · exact w_c0
  · exact w_c1
  · exact w_c2
  · exact w_c3
  · exact w_c4
  · exact w_c5
  · exact w_c6
  · exact w_c7
  · exact w_c8
  · exact w_c9
  · exact w_c10
  · exact w_c11
  · exact w_c12
  · exact w_c13
  · exact w_c14
  · exact w_c15
  · exact w_c16
  · exact w_c17
  · exact w_c18
  · exact w_c19
  · exact w_c20
  · exact w_c21
  · exact w_c22
  · exact w_c23
  · exact w_c24
  · exact w_c25
  · exact w_c26
  · exact w_c27
  · exact w_c28
  · exact w_c29
  · exact w_c30
  · exact w_c31
  · exact w_c32
  · exact w_c33
  · exact w_c34
  · exact w_c35
  · exact w_c36
  · exact w_c37
  · exact w_c38
  · exact w_c39
  · exact w_c40
  · exact w_c41
  · exact w_c42
  · exact w_c43
  · exact w_c44
  · exact w_c45
  · exact w_c46
  · exact w_c47
  · exact w_c48
  · exact w_c49
  · exact w_c50
  · exact w_c51
  · exact w_c52
  · exact w_c53
  · exact w_c54
  · exact w_c55
  · exact w_c56
  · exact w_c57
  · exact w_c58
  · exact w_c59
  · exact w_c60
  · exact w_c61
  · exact w_c62
  · exact w_c63
  · exact w_c64
  · exact w_c65
  · exact w_c66
  · exact w_c67
set_option maxRecDepth 65536 in
theorem w_t1 : (words1.take 24).all (fun c => isCode c || c.before args0 about1) = true := by decide +kernel
set_option maxRecDepth 65536 in
theorem w_t2 : ((words1.drop 24).take 24).all (fun c => isCode c || c.before args0 about1) = true := by decide +kernel
set_option maxRecDepth 65536 in
theorem w_t3 : (((words1.drop 24).drop 24).take 24).all (fun c => isCode c || c.before args0 about1) = true := by decide +kernel
set_option maxRecDepth 65536 in
theorem w_t4 : ((((words1.drop 24).drop 24).drop 24).take 24).all (fun c => isCode c || c.before args0 about1) = true := by decide +kernel
set_option maxRecDepth 65536 in
theorem w_t5 : (((((words1.drop 24).drop 24).drop 24).drop 24).take 24).all (fun c => isCode c || c.before args0 about1) = true := by decide +kernel
set_option maxRecDepth 65536 in
theorem w_t6 : ((((((words1.drop 24).drop 24).drop 24).drop 24).drop 24).take 24).all (fun c => isCode c || c.before args0 about1) = true := by decide +kernel
set_option maxRecDepth 65536 in
theorem w_t7 : (((((((words1.drop 24).drop 24).drop 24).drop 24).drop 24).drop 24).take 24).all (fun c => isCode c || c.before args0 about1) = true := by decide +kernel
set_option maxRecDepth 65536 in
theorem w_t8 : ((((((((words1.drop 24).drop 24).drop 24).drop 24).drop 24).drop 24).drop 24).take 24).all (fun c => isCode c || c.before args0 about1) = true := by decide +kernel
set_option maxRecDepth 65536 in
theorem w_t9 : (((((((((words1.drop 24).drop 24).drop 24).drop 24).drop 24).drop 24).drop 24).drop 24).take 24).all (fun c => isCode c || c.before args0 about1) = true := by decide +kernel
set_option maxRecDepth 65536 in
theorem w_t10 : ((((((((((words1.drop 24).drop 24).drop 24).drop 24).drop 24).drop 24).drop 24).drop 24).drop 24).take 24).all (fun c => isCode c || c.before args0 about1) = true := by decide +kernel
set_option maxRecDepth 65536 in
theorem w_t11 : (((((((((((words1.drop 24).drop 24).drop 24).drop 24).drop 24).drop 24).drop 24).drop 24).drop 24).drop 24).take 24).all (fun c => isCode c || c.before args0 about1) = true := by decide +kernel
set_option maxRecDepth 65536 in
theorem w_t12 : ((((((((((((words1.drop 24).drop 24).drop 24).drop 24).drop 24).drop 24).drop 24).drop 24).drop 24).drop 24).drop 24).take 24).all (fun c => isCode c || c.before args0 about1) = true := by decide +kernel
set_option maxRecDepth 65536 in
theorem w_t13 : (((((((((((((words1.drop 24).drop 24).drop 24).drop 24).drop 24).drop 24).drop 24).drop 24).drop 24).drop 24).drop 24).drop 24).take 24).all (fun c => isCode c || c.before args0 about1) = true := by decide +kernel
set_option maxRecDepth 65536 in
theorem w_t14 : ((((((((((((((words1.drop 24).drop 24).drop 24).drop 24).drop 24).drop 24).drop 24).drop 24).drop 24).drop 24).drop 24).drop 24).drop 24).take 24).all (fun c => isCode c || c.before args0 about1) = true := by decide +kernel
set_option maxRecDepth 65536 in
theorem w_t15 : ((((((((((((((words1.drop 24).drop 24).drop 24).drop 24).drop 24).drop 24).drop 24).drop 24).drop 24).drop 24).drop 24).drop 24).drop 24).drop 24).all (fun c => isCode c || c.before args0 about1) = true := by decide +kernel
theorem w_tables : (allAtoms (Jvm.Cond.code x code maxLocals ret :: tables_1)).before args0 about1 = true := by
  rw [allAtoms_all]
  show words1.all (fun c => c.before args0 about1) = true
  refine all_split ?_ w_codes
  rw [← List.take_append_drop 24 words1, List.all_append, w_t1, ← List.take_append_drop 24 (words1.drop 24), List.all_append, w_t2, ← List.take_append_drop 24 ((words1.drop 24).drop 24), List.all_append, w_t3, ← List.take_append_drop 24 (((words1.drop 24).drop 24).drop 24), List.all_append, w_t4, ← List.take_append_drop 24 ((((words1.drop 24).drop 24).drop 24).drop 24), List.all_append, w_t5, ← List.take_append_drop 24 (((((words1.drop 24).drop 24).drop 24).drop 24).drop 24), List.all_append, w_t6, ← List.take_append_drop 24 ((((((words1.drop 24).drop 24).drop 24).drop 24).drop 24).drop 24), List.all_append, w_t7, ← List.take_append_drop 24 (((((((words1.drop 24).drop 24).drop 24).drop 24).drop 24).drop 24).drop 24), List.all_append, w_t8, ← List.take_append_drop 24 ((((((((words1.drop 24).drop 24).drop 24).drop 24).drop 24).drop 24).drop 24).drop 24), List.all_append, w_t9, ← List.take_append_drop 24 (((((((((words1.drop 24).drop 24).drop 24).drop 24).drop 24).drop 24).drop 24).drop 24).drop 24), List.all_append, w_t10, ← List.take_append_drop 24 ((((((((((words1.drop 24).drop 24).drop 24).drop 24).drop 24).drop 24).drop 24).drop 24).drop 24).drop 24), List.all_append, w_t11, ← List.take_append_drop 24 (((((((((((words1.drop 24).drop 24).drop 24).drop 24).drop 24).drop 24).drop 24).drop 24).drop 24).drop 24).drop 24), List.all_append, w_t12, ← List.take_append_drop 24 ((((((((((((words1.drop 24).drop 24).drop 24).drop 24).drop 24).drop 24).drop 24).drop 24).drop 24).drop 24).drop 24).drop 24), List.all_append, w_t13, ← List.take_append_drop 24 (((((((((((((words1.drop 24).drop 24).drop 24).drop 24).drop 24).drop 24).drop 24).drop 24).drop 24).drop 24).drop 24).drop 24).drop 24), List.all_append, w_t14, w_t15]
  rfl
set_option maxRecDepth 65536 in
theorem w_rest : rest_1_c.before args0 about1 = true := by decide +kernel
set_option maxRecDepth 65536 in
theorem w_case : (Jvm.Cond.and given_1 narrow_1).before args0 about1 = true := by decide +kernel
theorem w_applies : (headSpec (Jvm.Cond.code x code maxLocals ret :: tables_1) room_1).applies x e0.platform about1 = true :=
  (Spec.applies_iff w_frames).mpr ⟨w_running, w_runnable, w_alone, w_named, w_hears, w_ripe, w_room, w_tables⟩
theorem atStart : AtStart classFile x code maxLocals ret World_1 tables_1 room_1 Calls_1 rest_1 Pre_1 launch0 p0 e0 about1 theMethod args0 below0 :=
  ⟨lists_1, trivial, launch0.admits_env _ _ _, launch0.least_env, fairChoices_fair.cas, fairChoices_fair.clock, w_frames, w_args, w_heap, w_applies, trivial, w_rest, w_case⟩
end start1
theorem witness_1 : WitnessClaimed_1 := ⟨start1.p0, start1.e0, start1.about1, start1.theMethod, start1.args0, start1.below0, start1.atStart⟩
end Jvm.Pilot.@@N@@
