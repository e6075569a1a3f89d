import JvmDerived
import JvmDerived.Pilot.@@N@@Statement
import JvmDerived.Pilot.@@N@@Code
set_option linter.unusedVariables false
set_option linter.unusedSimpArgs false
namespace Jvm.Pilot.@@N@@
open Jvm Jvm.ClassFile Sem Op Lib Jvm.Free Jvm.Stand Jvm.LawKit Jvm.RoadKit Bundle Jvm.Pilot.@@N@@.Jvm.D
section OwnPre
def Gl (tb : Tables) (e : Env) (below : List Frame) (P : State → Outcome → Prop) (T : State) (m : MethodId) (pc : Nat) (L : Array Slot) (S : List Value) : Prop := ∃ s₂ o, Steps tb e below (T.setTop (mkF m pc L S)) s₂ ∧ P s₂ o
def Wk (p : Program) (l : Launch) (e : Env) (R : Room) (s : State) (m : MethodId) (args : Array Value) (below : List Frame) (meth : Method) (c : Code) (own : String) (Z : State) (hb : Heap) (ws : List Addr) (I : Heap → Prop) (T : State) (h : Heap) (locs : List Loc) (cells slots : Nat) : Prop :=
  Stand p l e R s m args below meth c T locs cells slots ∧ p.tables.exec = Jvm.exec ∧ T.heap = h ∧ Z.Warmed39 s.vm ∧ s.vm.findClass own = some m.cls ∧ Old Z Z.heap.size h ∧ Fr Z.heap.size locs ∧ Keep hb h ws ∧ I h
variable {p : Program} {l : Launch} {e : Env} {R : Room} {s : State} {m : MethodId} {args : Array Value} {below : List Frame} {meth : Method} {c : Code} {T : State} {locs : List Loc} {cells slots cells' slots' : Nat} {Z : State} {a0 : Array Value} {h hb : Heap} {ws : List Addr} {own : String} {I : Heap → Prop} {P : State → Outcome → Prop} {pc pc' : Nat} {L L' : Array Slot} {S : List Value}
theorem Gl.st {tb : Tables} {T T' : State} {S' : List Value} (k : ∀ target, Steps tb e below (T'.setTop (mkF m pc' L' S')) target → Steps tb e below (T.setTop (mkF m pc L S)) target) (G : Gl tb e below P T' m pc' L' S') : Gl tb e below P T m pc L S := by
  obtain ⟨s2, o, h1, h2⟩ := G
  exact ⟨s2, o, k _ h1, h2⟩
theorem Gl.tr {tb : Tables} {T T' : State} {S' : List Value} (k : Steps tb e below (T.setTop (mkF m pc L S)) (T'.setTop (mkF m pc' L' S'))) (G : Gl tb e below P T' m pc' L' S') : Gl tb e below P T m pc L S := by
  obtain ⟨s2, o, h1, h2⟩ := G
  exact ⟨s2, o, k.trans h1, h2⟩
theorem Wk.ox (W : Wk p l e R s m args below meth c own Z hb ws I T h locs cells slots) : Ext Z.heap h := W.2.2.2.2.2.1.2
theorem Wk.old (W : Wk p l e R s m args below meth c own Z hb ws I T h locs cells slots) : Old Z Z.heap.size h := W.2.2.2.2.2.1
theorem Wk.keep (W : Wk p l e R s m args below meth c own Z hb ws I T h locs cells slots) : Keep hb h ws := W.2.2.2.2.2.2.2.1
theorem o_iloadN (W : Wk p l e R s m args below meth c own Z hb ws I T h locs cells slots) {k : Fin 4} {v : Int32} (hd : decode c.code pc = .ok (.iload_n k, 1)) (hl : L[k.val]? = some (.val (.int v))) (hp : pc + 1 = pc') (K : Gl p.tables e below P T m pc' L (.int v :: S)) : Gl p.tables e below P T m pc L S := by
  subst hp; exact Gl.st (fun _ q => XS.iloadN W.1.here W.2.1 rfl hd hl q) K
theorem o_iload (W : Wk p l e R s m args below meth c own Z hb ws I T h locs cells slots) {k : Nat} {v : Int32} (hd : decode c.code pc = .ok (.iload k, 2)) (hl : L[k]? = some (.val (.int v))) (hp : pc + 2 = pc') (K : Gl p.tables e below P T m pc' L (.int v :: S)) : Gl p.tables e below P T m pc L S := by
  subst hp; exact Gl.st (fun _ q => XS.iload W.1.here W.2.1 rfl hd hl q) K
theorem o_istore (W : Wk p l e R s m args below meth c own Z hb ws I T h locs cells slots) {k : Nat} {v : Int32} {L' : Array Slot} (hd : decode c.code pc = .ok (.istore k, 2)) (hl : storeLocals L k (.int v) = some L') (hp : pc + 2 = pc') (K : Gl p.tables e below P T m pc' L' S) : Gl p.tables e below P T m pc L (.int v :: S) := by
  subst hp; exact Gl.st (fun _ q => XS.istore W.1.here W.2.1 rfl hd rfl hl q) K
theorem o_dloadN (W : Wk p l e R s m args below meth c own Z hb ws I T h locs cells slots) {k : Fin 4} {v : UInt64} (hd : decode c.code pc = .ok (.dload_n k, 1)) (hl : L[k.val]? = some (.val (.double v))) (hp : pc + 1 = pc') (K : Gl p.tables e below P T m pc' L (.double v :: S)) : Gl p.tables e below P T m pc L S := by
  subst hp; exact Gl.st (fun _ q => XS.dloadN W.1.here W.2.1 rfl hd hl q) K
theorem o_dload (W : Wk p l e R s m args below meth c own Z hb ws I T h locs cells slots) {k : Nat} {v : UInt64} (hd : decode c.code pc = .ok (.dload k, 2)) (hl : L[k]? = some (.val (.double v))) (hp : pc + 2 = pc') (K : Gl p.tables e below P T m pc' L (.double v :: S)) : Gl p.tables e below P T m pc L S := by
  subst hp; exact Gl.st (fun _ q => XS.dload W.1.here W.2.1 rfl hd hl q) K
theorem o_dstore (W : Wk p l e R s m args below meth c own Z hb ws I T h locs cells slots) {k : Nat} {v : UInt64} {L' : Array Slot} (hd : decode c.code pc = .ok (.dstore k, 2)) (hl : storeLocals L k (.double v) = some L') (hp : pc + 2 = pc') (K : Gl p.tables e below P T m pc' L' S) : Gl p.tables e below P T m pc L (.double v :: S) := by
  subst hp; exact Gl.st (fun _ q => XS.dstore W.1.here W.2.1 rfl hd rfl hl q) K
theorem o_aloadN (W : Wk p l e R s m args below meth c own Z hb ws I T h locs cells slots) {k : Fin 4} {v : Value} (hd : decode c.code pc = .ok (.aload_n k, 1)) (hl : L[k.val]? = some (.val v)) (hv : v.isRef = true) (hp : pc + 1 = pc') (K : Gl p.tables e below P T m pc' L (v :: S)) : Gl p.tables e below P T m pc L S := by
  subst hp; exact Gl.st (fun _ q => XS.aloadN W.1.here W.2.1 rfl hd hl hv q) K
theorem o_aload (W : Wk p l e R s m args below meth c own Z hb ws I T h locs cells slots) {k : Nat} {v : Value} (hd : decode c.code pc = .ok (.aload k, 2)) (hl : L[k]? = some (.val v)) (hv : v.isRef = true) (hp : pc + 2 = pc') (K : Gl p.tables e below P T m pc' L (v :: S)) : Gl p.tables e below P T m pc L S := by
  subst hp; exact Gl.st (fun _ q => XS.aload W.1.here W.2.1 rfl hd hl hv q) K
theorem o_astore (W : Wk p l e R s m args below meth c own Z hb ws I T h locs cells slots) {k : Nat} {v : Value} {L' : Array Slot} (hd : decode c.code pc = .ok (.astore k, 2)) (hv : v.isRef = true) (hl : storeLocals L k v = some L') (hp : pc + 2 = pc') (K : Gl p.tables e below P T m pc' L' S) : Gl p.tables e below P T m pc L (v :: S) := by
  subst hp; exact Gl.st (fun _ q => XS.astore W.1.here W.2.1 rfl hd rfl hv hl q) K
theorem o_iconst (W : Wk p l e R s m args below meth c own Z hb ws I T h locs cells slots) {i : Int} {v : Int32} (hd : decode c.code pc = .ok (.iconst i, 1)) (hv : Int32.ofInt i = v) (hp : pc + 1 = pc') (K : Gl p.tables e below P T m pc' L (.int v :: S)) : Gl p.tables e below P T m pc L S := by
  subst hp; exact Gl.st (fun _ q => XT.iconstV W.1.here W.2.1 rfl v hd hv q) K
theorem o_sipush (W : Wk p l e R s m args below meth c own Z hb ws I T h locs cells slots) {i : Int} {v : Int32} (hd : decode c.code pc = .ok (.sipush i, 3)) (hv : (Int16.ofInt i).toInt32 = v) (hp : pc + 3 = pc') (K : Gl p.tables e below P T m pc' L (.int v :: S)) : Gl p.tables e below P T m pc L S := by
  subst hp; exact Gl.st (fun _ q => XT.sipushV W.1.here W.2.1 rfl v hd hv q) K
theorem o_iadd (W : Wk p l e R s m args below meth c own Z hb ws I T h locs cells slots) {x y v : Int32} (hd : decode c.code pc = .ok (.iadd, 1)) (hv : x + y = v) (hp : pc + 1 = pc') (K : Gl p.tables e below P T m pc' L (.int v :: S)) : Gl p.tables e below P T m pc L (.int y :: .int x :: S) := by
  subst hp; exact Gl.st (fun _ q => XS.iadd W.1.here W.2.1 rfl hd rfl (by rw [hv]; exact q)) K
theorem o_isub (W : Wk p l e R s m args below meth c own Z hb ws I T h locs cells slots) {x y v : Int32} (hd : decode c.code pc = .ok (.isub, 1)) (hv : x - y = v) (hp : pc + 1 = pc') (K : Gl p.tables e below P T m pc' L (.int v :: S)) : Gl p.tables e below P T m pc L (.int y :: .int x :: S) := by
  subst hp; exact Gl.st (fun _ q => XS.isub W.1.here W.2.1 rfl hd rfl (by rw [hv]; exact q)) K
theorem o_iand (W : Wk p l e R s m args below meth c own Z hb ws I T h locs cells slots) {x y v : Int32} (hd : decode c.code pc = .ok (.iand, 1)) (hv : x &&& y = v) (hp : pc + 1 = pc') (K : Gl p.tables e below P T m pc' L (.int v :: S)) : Gl p.tables e below P T m pc L (.int y :: .int x :: S) := by
  subst hp; exact Gl.st (fun _ q => XS.iand W.1.here W.2.1 rfl hd rfl (by rw [hv]; exact q)) K
theorem o_irem (W : Wk p l e R s m args below meth c own Z hb ws I T h locs cells slots) {x y v : Int32} (hd : decode c.code pc = .ok (.irem, 1)) (hy : y ≠ 0) (hv : x % y = v) (hp : pc + 1 = pc') (K : Gl p.tables e below P T m pc' L (.int v :: S)) : Gl p.tables e below P T m pc L (.int y :: .int x :: S) := by
  subst hp; exact Gl.st (fun _ q => iremM W.1 W.2.1 rfl hd rfl hy (by rw [hv]; exact q)) K
theorem o_goto (W : Wk p l e R s m args below meth c own Z hb ws I T h locs cells slots) {o : Int} (hd : decode c.code pc = .ok (.goto o, 3)) (ho : 0 ≤ (pc : Int) + o) (hp : ((pc : Int) + o).toNat = pc') (K : Gl p.tables e below P T m pc' L S) : Gl p.tables e below P T m pc L S := by
  exact Gl.st (fun _ q => XS.goto W.1.here W.2.1 rfl (pc0 := pc) rfl hd ho hp q) K
theorem o_ifY (W : Wk p l e R s m args below meth c own Z hb ws I T h locs cells slots) {o : Int} {cd : ClassFile.Cond} {x : Int32} (hd : decode c.code pc = .ok (.ifCond cd o, 3)) (hc : ifCond.holds cd x = true) (ho : 0 ≤ (pc : Int) + o) (hp : ((pc : Int) + o).toNat = pc') (K : Gl p.tables e below P T m pc' L S) : Gl p.tables e below P T m pc L (.int x :: S) := by
  exact Gl.st (fun _ q => XS.ifYes W.1.here W.2.1 rfl (pc0 := pc) rfl hd rfl hc ho hp q) K
theorem o_ifN (W : Wk p l e R s m args below meth c own Z hb ws I T h locs cells slots) {o : Int} {cd : ClassFile.Cond} {x : Int32} (hd : decode c.code pc = .ok (.ifCond cd o, 3)) (hc : ifCond.holds cd x = false) (hp : pc + 3 = pc') (K : Gl p.tables e below P T m pc' L S) : Gl p.tables e below P T m pc L (.int x :: S) := by
  subst hp; exact Gl.st (fun _ q => XS.ifNo W.1.here W.2.1 rfl hd rfl hc q) K
theorem o_icmpY (W : Wk p l e R s m args below meth c own Z hb ws I T h locs cells slots) {o : Int} {cd : ClassFile.Cond} {x y : Int32} (hd : decode c.code pc = .ok (.if_icmp cd o, 3)) (hc : if_icmp.holds cd x y = true) (ho : 0 ≤ (pc : Int) + o) (hp : ((pc : Int) + o).toNat = pc') (K : Gl p.tables e below P T m pc' L S) : Gl p.tables e below P T m pc L (.int y :: .int x :: S) := by
  exact Gl.st (fun _ q => XS.icmpYes W.1.here W.2.1 rfl (pc0 := pc) rfl hd rfl hc ho hp q) K
theorem o_icmpN (W : Wk p l e R s m args below meth c own Z hb ws I T h locs cells slots) {o : Int} {cd : ClassFile.Cond} {x y : Int32} (hd : decode c.code pc = .ok (.if_icmp cd o, 3)) (hc : if_icmp.holds cd x y = false) (hp : pc + 3 = pc') (K : Gl p.tables e below P T m pc' L S) : Gl p.tables e below P T m pc L (.int y :: .int x :: S) := by
  subst hp; exact Gl.st (fun _ q => XS.icmpNo W.1.here W.2.1 rfl hd rfl hc q) K
theorem o_acmpY (W : Wk p l e R s m args below meth c own Z hb ws I T h locs cells slots) {o : Int} {cd : ClassFile.ACond} {x y : Value} (hd : decode c.code pc = .ok (.if_acmp cd o, 3)) (h1 : x.isRef = true) (h2 : y.isRef = true) (hc : XT.acmp cd x y = true) (ho : 0 ≤ (pc : Int) + o) (hp : ((pc : Int) + o).toNat = pc') (K : Gl p.tables e below P T m pc' L S) : Gl p.tables e below P T m pc L (y :: x :: S) := by
  exact Gl.st (fun _ q => XT.acmpYes W.1.here W.2.1 rfl (pc0 := pc) rfl hd rfl h1 h2 hc ho hp q) K
theorem o_acmpN (W : Wk p l e R s m args below meth c own Z hb ws I T h locs cells slots) {o : Int} {cd : ClassFile.ACond} {x y : Value} (hd : decode c.code pc = .ok (.if_acmp cd o, 3)) (h1 : x.isRef = true) (h2 : y.isRef = true) (hc : XT.acmp cd x y = false) (hp : pc + 3 = pc') (K : Gl p.tables e below P T m pc' L S) : Gl p.tables e below P T m pc L (y :: x :: S) := by
  subst hp; exact Gl.st (fun _ q => XT.acmpNo W.1.here W.2.1 rfl hd rfl h1 h2 hc q) K
theorem o_dconst1 (W : Wk p l e R s m args below meth c own Z hb ws I T h locs cells slots) {v : UInt64} (hd : decode c.code pc = .ok (.dconst 1, 1)) (hv : FP.dconst1 = v) (hp : pc + 1 = pc') (K : Gl p.tables e below P T m pc' L (.double v :: S)) : Gl p.tables e below P T m pc L S := by
  subst hp; exact Gl.st (fun _ q => XS.dconst1 W.1.here W.2.1 rfl hd hv q) K
theorem o_i2d (W : Wk p l e R s m args below meth c own Z hb ws I T h locs cells slots) {x : Int32} {v : UInt64} (hd : decode c.code pc = .ok (.i2d, 1)) (hv : FP.i2d x = v) (hp : pc + 1 = pc') (K : Gl p.tables e below P T m pc' L (.double v :: S)) : Gl p.tables e below P T m pc L (.int x :: S) := by
  subst hp; exact Gl.st (fun _ q => XS.i2dS W.1.here W.2.1 rfl hd rfl hv q) K
theorem o_dsub (W : Wk p l e R s m args below meth c own Z hb ws I T h locs cells slots) {x y v : UInt64} (hd : decode c.code pc = .ok (.dsub, 1)) (hn : Jvm.Free.Fl.NoNaN64 (FP.dsub x y)) (hv : FP.dsub x y = v) (hp : pc + 1 = pc') (K : Gl p.tables e below P T m pc' L (.double v :: S)) : Gl p.tables e below P T m pc L (.double y :: .double x :: S) := by
  subst hp; exact Gl.st (fun _ q => XS.dsubS W.1.here W.2.1 rfl hd rfl hn hv q) K
theorem o_ddiv (W : Wk p l e R s m args below meth c own Z hb ws I T h locs cells slots) {x y v : UInt64} (hd : decode c.code pc = .ok (.ddiv, 1)) (hn : Jvm.Free.Fl.NoNaN64 (FP.ddiv x y)) (hv : FP.ddiv x y = v) (hp : pc + 1 = pc') (K : Gl p.tables e below P T m pc' L (.double v :: S)) : Gl p.tables e below P T m pc L (.double y :: .double x :: S) := by
  subst hp; exact Gl.st (fun _ q => XS.ddivS W.1.here W.2.1 rfl hd rfl hn hv q) K
theorem o_dcmp (W : Wk p l e R s m args below meth c own Z hb ws I T h locs cells slots) {o : CmpOp} {x y : UInt64} {v : Int32} (hd : decode c.code pc = .ok (.dcmp o, 1)) (hv : cmpValue (FP.dcmp x y) o = v) (hp : pc + 1 = pc') (K : Gl p.tables e below P T m pc' L (.int v :: S)) : Gl p.tables e below P T m pc L (.double y :: .double x :: S) := by
  subst hp; exact Gl.st (fun _ q => XS.dcmpS W.1.here W.2.1 rfl hd rfl hv q) K
theorem o_getS (W : Wk p l e R s m args below meth c own Z hb ws I T h locs cells slots) {R0 O n d : String} {index : Nat} (w : (Cond.fieldLink own index R0 n d).before a0 Z = true) (via : Via Z R0 O n d) {v : Value} (F : Sta Z h O n d v) (hd : decode c.code pc = .ok (.getstatic index, 3)) (hp : pc + 3 = pc')
    (K : ∀ T', Wk p l e R s m args below meth c own Z hb ws I T' h locs cells slots → Gl p.tables e below P T' m pc' L (v :: S)) : Gl p.tables e below P T m pc L S := by
  subst hp
  obtain ⟨X, hx, eT, hZ, ho, r⟩ := W
  obtain ⟨T', X', e', st⟩ := getS (host := "") X hx hZ ho w via eT F (g := mkF m pc L S) rfl hd
  exact Gl.st st (K T' ⟨X', hx, e', hZ, ho, r⟩)
theorem o_ldcI (W : Wk p l e R s m args below meth c own Z hb ws I T h locs cells slots) {index : Nat} {v : Int32} (w : (Cond.constant own index v).before a0 Z = true) (hd : decode c.code pc = .ok (.ldc index, 2)) (hp : pc + 2 = pc') (K : Gl p.tables e below P T m pc' L (.int v :: S)) : Gl p.tables e below P T m pc L S := by
  subst hp
  exact Gl.st (W.1.ldcInt W.2.1 W.2.2.2.2.1 (mvT W.2.2.2.1 w) (g := mkF m pc L S) rfl hd) K
abbrev BackQ (l : Launch) (R : Room) (p : Program) (e : Env) (below : List Frame) (s : State) (args : Array Value) (y : MethodName) (len Wd : Nat) (as' : Array Value) (h : Heap) (kc ks : Nat) (Q : Option Value → Heap → List Loc → Prop) : Prop :=
  Back l R p e below s args y len Wd (fun A a => a = as' ∧ A.U.heap = h ∧ A.cells + kc ≤ R.cells ∧ A.slots + ks ≤ R.slots) (fun A _ v B => ∃ L, Q v B.U.heap L ∧ B.locs = A.locs ++ L ∧ B.cells = A.cells + kc ∧ B.slots = A.slots + ks)
theorem o_after (W : Wk p l e R s m args below meth c own Z hb ws I T h locs cells slots) {B : Pt} {v : Option Value} {kc ks : Nat} {Q : Option Value → Heap → List Loc → Prop} {wy : List Addr} (X' : Stand p l e R s m args below meth c B.U B.locs B.cells B.slots) (hpost : ∃ L, Q v B.U.heap L ∧ B.locs = locs ++ L ∧ B.cells = cells + kc ∧ B.slots = slots + ks)
    (hq : ∀ v hh L, Q v hh L → Fr Z.heap.size L ∧ Keep h hh wy) (hg : ∀ x ∈ wy, Z.heap.size ≤ x ∧ (x ∈ ws ∨ hb.size ≤ x)) (hI : ∀ h', Keep h h' wy → I h') :
    ∃ L, Q v B.U.heap L ∧ Keep h B.U.heap wy ∧ Wk p l e R s m args below meth c own Z hb ws I B.U B.U.heap (locs ++ L) (cells + kc) (slots + ks) := by
  obtain ⟨X, hx, eT, hZ, ho, o, fr, kp, i⟩ := W
  obtain ⟨⟨U, lo, kc', ks'⟩, rfl⟩ : ∃ B', B' = B := ⟨_, rfl⟩
  obtain ⟨L', q, e1, e2, e3⟩ := hpost
  have e1 : lo = locs ++ L' := e1
  have e2 : kc' = cells + kc := e2
  have e3 : ks' = slots + ks := e3
  subst e1 e2 e3
  obtain ⟨f, k⟩ := hq _ _ _ q
  exact ⟨L', q, k, X', hx, rfl, hZ, ho, o.keep k (fun x hx => (hg x hx).1), fr.app f, kp.trans k (fun x hx => (hg x hx).2), hI _ k⟩
theorem o_virtual (W : Wk p l e R s m args below meth c own Z hb ws I T h locs cells slots) {index : Nat} {C : String} {y z : MethodName} (w1 : (Cond.methodLink own index y).before a0 Z = true) (w2 : (Cond.declares y).before a0 Z = true) (hnf : NotFace s y) (w3 : (Cond.selects C y z).before a0 Z = true) (w4 : (Cond.instanceMethod z).before a0 Z = true)
    (hy : y.cls ≠ "java/lang/invoke/MethodHandle" ∧ y.cls ≠ "java/lang/invoke/VarHandle") {Wd kc ks : Nat} {Q : Option Value → Heap → List Loc → Prop} {a : Addr} (E : Exa Z h a C) {argsL : List Value} (B : BackQ l R p e below s args z 3 Wd (.ref a :: argsL).toArray h kc ks Q) (hml : L.size = c.maxLocals)
    (hlen : ∀ sig, parseMethodDescriptor y.desc = some sig → argsL.length = sig.parameters.length) {S0 : List Value} (hS : S0 = argsL.reverse ++ .ref a :: S) (hW : 2 * 0 + (S.map fun v => v.category).sum ≤ Wd) (hd : decode c.code pc = .ok (.invokevirtual index, 3)) (hp : pc + 3 = pc')
    (hc' : cells + kc = cells') (hs' : slots + ks = slots') (hc : cells' ≤ R.cells) (hs : slots' ≤ R.slots) {wy : List Addr} (hq : ∀ v hh L, Q v hh L → Fr Z.heap.size L ∧ Keep h hh wy) (hg : ∀ x ∈ wy, Z.heap.size ≤ x ∧ (x ∈ ws ∨ hb.size ≤ x)) (hI : ∀ h', Keep h h' wy → I h')
    (K : ∀ v T' h' Lc, Wk p l e R s m args below meth c own Z hb ws I T' h' (locs ++ Lc) cells' slots' → Keep h h' wy → Q v h' Lc → Gl p.tables e below P T' m pc' L (v.toList ++ S)) : Gl p.tables e below P T m pc L S0 := by
  subst hp hc' hs' hS
  obtain ⟨cB, kB, q1, q2, q3⟩ := isOf W.2.2.2.1 W.2.2.1 E
  obtain ⟨v, vm₁, B', -, X', hpost, st⟩ := W.1.virtualBack W.2.1 W.2.2.2.2.1 (mvT W.2.2.2.1 w1) (mvT W.2.2.2.1 w2) hnf (mvT W.2.2.2.1 w3) (mvT W.2.2.2.1 w4) hy B q1 q3 (g := mkF m pc L (argsL.reverse ++ .ref a :: S)) rfl hml (Steps.refl _) hlen rfl hW hd (fun _ _ => ⟨rfl, W.2.2.1, hc, hs⟩)
  obtain ⟨Lc, q, k, W'⟩ := o_after W X' hpost hq hg hI
  exact Gl.tr st (K v _ _ Lc W' k q)
theorem o_nf (W : Wk p l e R s m args below meth c own Z hb ws I T h locs cells slots) {C : String} {y z : MethodName} (hyz : y = z) (w : (Cond.selects C y z).before a0 Z = true) : NotFace s y := by
  subst hyz
  exact notFace_of_selects (args := #[]) (mvT W.2.2.2.1 w)
def CtrN (l : Launch) (Z : State) (y : MethodName) (bytes : ByteArray) (maxL : Nat) (ret : Option FieldType) (xs : List Jvm.Cond) (rm : Room) (as' : Array Value) (h0 : Heap) (wy : List Addr) (Q : Option Value → Heap → Prop) : Prop :=
  MetFree l y (head1 (Jvm.Cond.code y bytes maxL ret :: xs) rm) (fun a U => a = as' ∧ Z.Warmed39 U.vm ∧ U.heap = h0) (fun _ _ _ _ _ => True) (fun _ U o U' => ∃ v L, o = .returned v ∧ (Fr Z.heap.size L ∧ Keep h0 U'.heap wy ∧ Q v U'.heap) ∧ FrameEnd U o U' L rm.cells rm.slots)
def PN (s : State) (Z : State) (below : List Frame) (h0 : Heap) (wy : List Addr) (rm : Room) (Q : Option Value → Heap → Prop) (s₂ : State) (o : Outcome) : Prop := s₂.status = .running ∧ Ended s₂ below o ∧ ∃ v L, o = .returned v ∧ (Fr Z.heap.size L ∧ Keep h0 s₂.heap wy ∧ Q v s₂.heap) ∧ FrameEnd s o s₂ L rm.cells rm.slots
theorem CtrN.intro {y : MethodName} {bytes : ByteArray} {maxL : Nat} {ret : Option FieldType} {xs : List Jvm.Cond} {rm : Room} {as' : Array Value} {h0 : Heap} {wy : List Addr} {Q : Option Value → Heap → Prop} {L0 : Array Slot} (hx : plainFor y = true) (O : Old Z Z.heap.size h0) (hef : ∀ m, entryFrame m as' maxL = mkF m 0 L0 [])
    (body : ∀ (p : Program) (e : Env) (s : State) (m : MethodId) (below : List Frame) (meth : Method) (c : Code) (T : State), c.code = bytes → c.maxLocals = maxL → meth.sig.returnType = ret → meth.locks = false → meth.name = y.name → Wk p l e rm s m as' below meth c y.cls Z h0 wy (fun _ => True) T h0 [] 0 0 → Gl p.tables e below (PN s Z below h0 wy rm Q) T m 0 L0 []) :
    CtrN l Z y bytes maxL ret xs rm as' h0 wy Q := by
  refine MetFree.of_bodySF hx hisR ?_
  intro p e s m args below meth c s₁ Bd hml hP hK
  obtain ⟨rfl, hZ, hh⟩ := hP
  have e0 : s₁.heap = h0 := by rw [← hh, Bd.state]; rfl
  obtain ⟨s2, o, g1, g2, g3, g4⟩ := body p e s m below meth c s₁ Bd.bytes hml Bd.returns Bd.notSynchronized (name_of_methodNamed Bd.named Bd.method).1 ⟨Stand.of_body Bd, Bd.exec, e0, hZ, findClass_of_methodNamed Bd.named, O, Fr.nil _, Keep.refl _ _, trivial⟩
  exact ⟨s2, o, castTop (hef m) g1, g2, g3, g4⟩
theorem CtrN.back {y : MethodName} {bytes : ByteArray} {maxL : Nat} {ret : Option FieldType} {rm : Room} {as' : Array Value} {wy : List Addr} {Q : Option Value → Heap → Prop} {len Wd : Nat} (W : Wk p l e R s m args below meth c own Z hb ws I T h locs cells slots) (C : CtrN l Z y bytes maxL ret [] rm as' h wy Q) (wc : (Cond.code y bytes maxL ret).before a0 Z = true) (wz : (Cond.initialized y.cls).before a0 Z = true)
    (hf : rm.frames + 1 ≤ R.frames) (hl : Wd + (maxL + 11) + rm.locals ≤ R.locals) : BackQ l R p e below s args y len Wd as' h rm.cells rm.slots (fun v hh L => Fr Z.heap.size L ∧ Keep h hh wy ∧ Q v hh) :=
  backOf (Q := fun v hh L => Fr Z.heap.size L ∧ Keep h hh wy ∧ Q v hh) C W.2.2.2.1 wc wz hf hl
theorem o_leaveN {y0 : List Addr} {Q : Option Value → Heap → Prop} {rm : Room} (W : Wk p l e rm s m args below meth c own Z hb ws I T h locs cells slots) (hlk : meth.locks = false) {v : Option Value} (hv : meth.sig.returnType = none → v = none) (hq : Q v h) (hc : cells ≤ rm.cells) (hs : slots ≤ rm.slots) (st : ∀ fs, (∀ (f : JFrame) (acts : List Action), f.method = m → f.locked = none → f.entered = [] → (doReturn e (T.setTop f) acts v).1 = T.setFrames fs) → Steps p.tables e below (T.setTop (mkF m pc L S)) (T.setFrames fs)) :
    Gl p.tables e below (PN s Z below hb ws rm Q) T m pc L S := by
  obtain ⟨X, hx, eT, hZ, ho, o, fr, kp, i⟩ := W
  obtain ⟨fs, hr, hrun, hended, hW, hsame⟩ := X.leave (v := v) hv
  have eh : (T.setFrames fs).heap = h := eT
  exact ⟨_, _, st fs hr, hrun, hended, v, locs, rfl, ⟨fr, by rw [eh]; exact kp, by rw [eh]; exact hq⟩, ⟨_, rfl⟩, hW, hsame.mono hc hs⟩
theorem o_retN (W : Wk p l e R s m args below meth c own Z hb ws I T h locs cells slots) (hlk : meth.locks = false) {Q : Option Value → Heap → Prop} {z z' : Int32} {t : FieldType} (hret : meth.sig.returnType = some t) (ht : t = .boolean ∨ t = .byte ∨ t = .char ∨ t = .short) (hz : nar t z = z') (hd : decode c.code pc = .ok (.ireturn, 1)) (hc : cells ≤ R.cells) (hs : slots ≤ R.slots) (hq : Q (some (.int z')) h) : Gl p.tables e below (PN s Z below hb ws R Q) T m pc L (.int z :: S) := by
  subst hz
  exact o_leaveN (y0 := []) W hlk (fun q => by rw [hret] at q; cases q) hq hc hs fun fs hr => retN W.1 W.2.1 hret ht hd hr
theorem o_retD (W : Wk p l e R s m args below meth c own Z hb ws I T h locs cells slots) (hlk : meth.locks = false) {Q : Option Value → Heap → Prop} {z : UInt64} (hret : meth.sig.returnType = some .double) (hd : decode c.code pc = .ok (.dreturn, 1)) (hc : cells ≤ R.cells) (hs : slots ≤ R.slots) (hq : Q (some (.double z)) h) : Gl p.tables e below (PN s Z below hb ws R Q) T m pc L (.double z :: S) :=
  o_leaveN (y0 := []) W hlk (fun q => by rw [hret] at q; cases q) hq hc hs fun fs hr => retOut W.1 W.2.1 hret rfl (Or.inr (Or.inr (Or.inl ⟨rfl, rfl, _, rfl⟩))) hd hr
theorem o_ldcD (W : Wk p l e R s m args below meth c own Z hb ws I T h locs cells slots) {index : Nat} {v : UInt64} (w : (Cond.constantDouble own index v).before a0 Z = true) (hd : decode c.code pc = .ok (.ldc2_w index, 3)) (hp : pc + 3 = pc') (K : Gl p.tables e below P T m pc' L (.double v :: S)) : Gl p.tables e below P T m pc L S := by
  subst hp
  exact Gl.st (W.1.ldc2DoubleC W.2.1 W.2.2.2.2.1 (mvT W.2.2.2.1 w) (g := mkF m pc L S) rfl hd) K
theorem own_stE {args : Array Value} {C n d K : String} (h : (Cond.exactly (.static C n d) K).value args Z none Z [] = some true) (hi : (Cond.initializedFor C n d).before args Z = true ∨ ((Cond.initialized C).before args Z = true ∧ (Cond.laysStatic C n d).before args Z = true)) :
    ∃ a, (Term.static C n d).eval args Z none [] Z = some (.ref a) ∧ Sta Z Z.heap C n d (.ref a) ∧ Exa Z Z.heap a K := by
  obtain ⟨a, ev⟩ := exa_v h
  exact ⟨a, ev, Sta.start ev hi, Exa.start ev h⟩
theorem own_fI {args : Array Value} {t : Term} {a : Addr} {C n d : String} {y : Int32} (ev : t.eval args Z none [] Z = some (.ref a)) (h : (Cond.eq (.field t C n d) (.int y)).value args Z none Z [] = some true) : Fld Z Z.heap a C n d (.int y) := by
  have q := eqv_i (Term.int_eval y) h
  rw [fld_at ev] at q
  exact Fld.start q
end OwnPre

section OwnMore
variable {p : Program} {l : Launch} {e : Env} {R : Room} {s : State} {m : MethodId} {args : Array Value} {below : List Frame} {meth : Method} {c : Code} {T : State} {locs : List Loc} {cells slots cells' slots' : Nat} {Z : State} {a0 : Array Value} {h h' hb : Heap} {ws : List Addr} {own : String} {I : Heap → Prop} {P : State → Outcome → Prop} {pc pc' : Nat} {L L' : Array Slot} {S : List Value}
end OwnMore
set_option maxRecDepth 65536
set_option maxHeartbeats 40000000

open Jvm.FP Jvm.Free.Fl in
theorem own_lam (x : Int32) : Mag64 1047 (FP.ddiv (FP.i2d x) 4652218415073722368) ∧ NoNaN64 (FP.ddiv (FP.i2d x) 4652218415073722368) := by
  have h : Mag64 (1056 + 1021 - 1033 + 3) (FP.ddiv (FP.i2d x) 4652218415073722368) := ddiv_mag (i2d_mag x) (L := 1033) (by unfold Big64; decide) (by decide) (by decide)
  exact ⟨h, (h.fin (by decide)).noNaN⟩
open Jvm.FP Jvm.Free.Fl in
theorem own_sub (x : Int32) : Mag64 1049 (FP.dsub FP.dconst1 (FP.ddiv (FP.i2d x) 4652218415073722368)) ∧ NoNaN64 (FP.dsub FP.dconst1 (FP.ddiv (FP.i2d x) 4652218415073722368)) := by
  have h1 : Mag64 1047 FP.dconst1 := by unfold Mag64; decide +kernel
  have h : Mag64 (1047 + 2) (FP.dsub FP.dconst1 (FP.ddiv (FP.i2d x) 4652218415073722368)) := dsub_mag h1 (own_lam x).1 (by decide)
  exact ⟨h, (h.fin (by decide)).noNaN⟩
open Jvm.FP Jvm.Free.Fl in
theorem own_div (x : Int32) {d : Int32} (hd : ¬ d = 0) : Mag64 1048 (FP.ddiv (FP.ddiv (FP.i2d x) 4652218415073722368) (FP.i2d d)) ∧ NoNaN64 (FP.ddiv (FP.ddiv (FP.i2d x) 4652218415073722368) (FP.i2d d)) := by
  have hb : Big64 1023 (FP.i2d d) := by
    rw [i2d_w]
    refine l2d_big fun q => hd ?_
    have q2 : d.toInt64.toInt = 0 := by rw [q]; rfl
    rw [Int32.toInt_toInt64] at q2
    exact Int32.toInt_inj.mp (by rw [q2]; rfl)
  have h : Mag64 (1047 + 1021 - 1023 + 3) (FP.ddiv (FP.ddiv (FP.i2d x) 4652218415073722368) (FP.i2d d)) := ddiv_mag (own_lam x).1 hb (by decide) (by decide)
  exact ⟨h, (h.fin (by decide)).noNaN⟩
theorem own_n0 (x : Int32) : ¬ ((1 : Int32) + (x &&& (2147483647 : Int32)) % (2147483647 : Int32)) = 0 := by
  have h0 : 0 ≤ (x &&& (2147483647 : Int32)).toInt := (c_andS x (2147483647 : Int32)).2.2 (by decide)
  have h1 := (c_irem (x &&& (2147483647 : Int32)) (2147483647 : Int32) 2147483647 (by decide)).1 h0
  have h2 := Int.emod_nonneg (x &&& (2147483647 : Int32)).toInt (b := 2147483647) (by decide)
  have h3 := Int.emod_lt_of_pos (x &&& (2147483647 : Int32)).toInt (b := 2147483647) (by decide)
  intro q
  have q1 : ((1 : Int32) + (x &&& (2147483647 : Int32)) % (2147483647 : Int32)).toInt = 0 := by rw [q]; rfl
  rw [Int32.toInt_add, h1, show (1 : Int32).toInt = 1 from rfl] at q1
  rw [Int.bmod_eq_of_le (by omega) (by omega)] at q1
  omega
theorem own_sub0 {n k : Int32} (h : ¬ k = n) : ¬ (n - k) = 0 := fun q => h (by
  have := congrArg (· + k) q
  simp at this
  exact this.symm)
open Jvm.FP Jvm.Free.Fl in
theorem own_one : NoNaN64 FP.dconst1 := by unfold NoNaN64; decide +kernel

theorem w0 {Z : State} {a0 : Array Value} (hw : ∀ d ∈ tables_1, d.before a0 Z = true) : ((Jvm.Cond.constant "com/example/sessn/sessn/session/WeightsWeightPinLaw" (7 : Nat) (2147483647 : Int32))).before a0 Z = true := hw _ (List.mem_of_getElem? (i := 0) rfl)
theorem w1 {Z : State} {a0 : Array Value} (hw : ∀ d ∈ tables_1, d.before a0 Z = true) : ((Jvm.Cond.fieldLink "com/example/sessn/sessn/session/WeightsWeightPinLaw" (8 : Nat) "com/example/sessn/sessn/session/Weights" "UNIFORM" "Lcom/example/sessn/sessn/session/Weights;")).before a0 Z = true := hw _ (List.mem_of_getElem? (i := 1) rfl)
theorem w2 {Z : State} {a0 : Array Value} (hw : ∀ d ∈ tables_1, d.before a0 Z = true) : ((Jvm.Cond.initialized "com/example/sessn/sessn/session/Weights")).before a0 Z = true := hw _ (List.mem_of_getElem? (i := 2) rfl)
theorem w3 {Z : State} {a0 : Array Value} (hw : ∀ d ∈ tables_1, d.before a0 Z = true) : ((Jvm.Cond.laysStatic "com/example/sessn/sessn/session/Weights" "UNIFORM" "Lcom/example/sessn/sessn/session/Weights;")).before a0 Z = true := hw _ (List.mem_of_getElem? (i := 3) rfl)
theorem w4 {Z : State} {a0 : Array Value} (hw : ∀ d ∈ tables_1, d.before a0 Z = true) : ((Jvm.Cond.constantDouble "com/example/sessn/sessn/session/WeightsWeightPinLaw" (20 : Nat) (4652218415073722368 : UInt64))).before a0 Z = true := hw _ (List.mem_of_getElem? (i := 4) rfl)
theorem w5 {Z : State} {a0 : Array Value} (hw : ∀ d ∈ tables_1, d.before a0 Z = true) : ((Jvm.Cond.methodLink "com/example/sessn/sessn/session/WeightsWeightPinLaw" (22 : Nat) ({ cls := "com/example/sessn/sessn/session/Weights", name := "weight", desc := "(IID)D" } : Jvm.MethodName))).before a0 Z = true := hw _ (List.mem_of_getElem? (i := 5) rfl)
theorem w6 {Z : State} {a0 : Array Value} (hw : ∀ d ∈ tables_1, d.before a0 Z = true) : ((Jvm.Cond.declares ({ cls := "com/example/sessn/sessn/session/Weights", name := "weight", desc := "(IID)D" } : Jvm.MethodName))).before a0 Z = true := hw _ (List.mem_of_getElem? (i := 6) rfl)
theorem w7 {Z : State} {a0 : Array Value} (hw : ∀ d ∈ tables_1, d.before a0 Z = true) : ((Jvm.Cond.instanceMethod ({ cls := "com/example/sessn/sessn/session/Weights", name := "weight", desc := "(IID)D" } : Jvm.MethodName))).before a0 Z = true := hw _ (List.mem_of_getElem? (i := 7) rfl)
theorem w8 {Z : State} {a0 : Array Value} (hw : ∀ d ∈ tables_1, d.before a0 Z = true) : ((Jvm.Cond.selects "com/example/sessn/sessn/session/Weights" ({ cls := "com/example/sessn/sessn/session/Weights", name := "weight", desc := "(IID)D" } : Jvm.MethodName) ({ cls := "com/example/sessn/sessn/session/Weights", name := "weight", desc := "(IID)D" } : Jvm.MethodName))).before a0 Z = true := hw _ (List.mem_of_getElem? (i := 8) rfl)
theorem w9 {Z : State} {a0 : Array Value} (hw : ∀ d ∈ tables_1, d.before a0 Z = true) : ((Jvm.Cond.code ({ cls := "com/example/sessn/sessn/session/Weights", name := "weight", desc := "(IID)D" } : Jvm.MethodName) prog_28_method_6_code (7 : Nat) (Option.some Jvm.ClassFile.FieldType.double))).before a0 Z = true := hw _ (List.mem_of_getElem? (i := 9) rfl)
theorem w10 {Z : State} {a0 : Array Value} (hw : ∀ d ∈ tables_1, d.before a0 Z = true) : ((Jvm.Cond.fieldLink "com/example/sessn/sessn/session/Weights" (3 : Nat) "com/example/sessn/sessn/session/Weights" "UNIFORM" "Lcom/example/sessn/sessn/session/Weights;")).before a0 Z = true := hw _ (List.mem_of_getElem? (i := 10) rfl)
theorem w11 {Z : State} {a0 : Array Value} (hw : ∀ d ∈ tables_1, d.before a0 Z = true) : ((Jvm.Cond.fieldLink "com/example/sessn/sessn/session/WeightsWeightPinLaw" (17 : Nat) "com/example/sessn/sessn/session/Weights" "DISTANCE" "Lcom/example/sessn/sessn/session/Weights;")).before a0 Z = true := hw _ (List.mem_of_getElem? (i := 11) rfl)
theorem w12 {Z : State} {a0 : Array Value} (hw : ∀ d ∈ tables_1, d.before a0 Z = true) : ((Jvm.Cond.laysStatic "com/example/sessn/sessn/session/Weights" "DISTANCE" "Lcom/example/sessn/sessn/session/Weights;")).before a0 Z = true := hw _ (List.mem_of_getElem? (i := 12) rfl)
theorem w13 {Z : State} {a0 : Array Value} (hw : ∀ d ∈ tables_1, d.before a0 Z = true) : ((Jvm.Cond.fieldLink "com/example/sessn/sessn/session/WeightsWeightPinLaw" (14 : Nat) "com/example/sessn/sessn/session/Weights" "PREV_CURRENT" "Lcom/example/sessn/sessn/session/Weights;")).before a0 Z = true := hw _ (List.mem_of_getElem? (i := 13) rfl)
theorem w14 {Z : State} {a0 : Array Value} (hw : ∀ d ∈ tables_1, d.before a0 Z = true) : ((Jvm.Cond.laysStatic "com/example/sessn/sessn/session/Weights" "PREV_CURRENT" "Lcom/example/sessn/sessn/session/Weights;")).before a0 Z = true := hw _ (List.mem_of_getElem? (i := 14) rfl)
theorem w15 {Z : State} {a0 : Array Value} (hw : ∀ d ∈ tables_1, d.before a0 Z = true) : ((Jvm.Cond.fieldLink "com/example/sessn/sessn/session/Weights" (7 : Nat) "com/example/sessn/sessn/session/Weights" "PREV_CURRENT" "Lcom/example/sessn/sessn/session/Weights;")).before a0 Z = true := hw _ (List.mem_of_getElem? (i := 15) rfl)
theorem d1_0 : decode prog_28_method_6_code 0 = .ok (.aload_n 0, 1) := by decide +kernel
theorem d1_1 : decode prog_28_method_6_code 1 = .ok (.getstatic 3, 3) := by decide +kernel
theorem d1_4 : decode prog_28_method_6_code 4 = .ok (.if_acmp .ne 9, 3) := by decide +kernel
theorem d1_7 : decode prog_28_method_6_code 7 = .ok (.dconst 1, 1) := by decide +kernel
theorem d1_8 : decode prog_28_method_6_code 8 = .ok (.dstore 5, 2) := by decide +kernel
theorem d1_10 : decode prog_28_method_6_code 10 = .ok (.goto 37, 3) := by decide +kernel
theorem d1_13 : decode prog_28_method_6_code 13 = .ok (.iload_n 1, 1) := by decide +kernel
theorem d1_14 : decode prog_28_method_6_code 14 = .ok (.iload_n 2, 1) := by decide +kernel
theorem d1_15 : decode prog_28_method_6_code 15 = .ok (.if_icmp .ne 11, 3) := by decide +kernel
theorem d1_18 : decode prog_28_method_6_code 18 = .ok (.dconst 1, 1) := by decide +kernel
theorem d1_19 : decode prog_28_method_6_code 19 = .ok (.dload_n 3, 1) := by decide +kernel
theorem d1_20 : decode prog_28_method_6_code 20 = .ok (.dsub, 1) := by decide +kernel
theorem d1_21 : decode prog_28_method_6_code 21 = .ok (.dstore 5, 2) := by decide +kernel
theorem d1_23 : decode prog_28_method_6_code 23 = .ok (.goto 24, 3) := by decide +kernel
theorem d1_26 : decode prog_28_method_6_code 26 = .ok (.aload_n 0, 1) := by decide +kernel
theorem d1_27 : decode prog_28_method_6_code 27 = .ok (.getstatic 7, 3) := by decide +kernel
theorem d1_30 : decode prog_28_method_6_code 30 = .ok (.if_acmp .ne 9, 3) := by decide +kernel
theorem d1_33 : decode prog_28_method_6_code 33 = .ok (.dload_n 3, 1) := by decide +kernel
theorem d1_34 : decode prog_28_method_6_code 34 = .ok (.dstore 5, 2) := by decide +kernel
theorem d1_36 : decode prog_28_method_6_code 36 = .ok (.goto 11, 3) := by decide +kernel
theorem d1_39 : decode prog_28_method_6_code 39 = .ok (.dload_n 3, 1) := by decide +kernel
theorem d1_40 : decode prog_28_method_6_code 40 = .ok (.iload_n 2, 1) := by decide +kernel
theorem d1_41 : decode prog_28_method_6_code 41 = .ok (.iload_n 1, 1) := by decide +kernel
theorem d1_42 : decode prog_28_method_6_code 42 = .ok (.isub, 1) := by decide +kernel
theorem d1_43 : decode prog_28_method_6_code 43 = .ok (.i2d, 1) := by decide +kernel
theorem d1_44 : decode prog_28_method_6_code 44 = .ok (.ddiv, 1) := by decide +kernel
theorem d1_45 : decode prog_28_method_6_code 45 = .ok (.dstore 5, 2) := by decide +kernel
theorem d1_47 : decode prog_28_method_6_code 47 = .ok (.dload 5, 2) := by decide +kernel
theorem d1_49 : decode prog_28_method_6_code 49 = .ok (.dreturn, 1) := by decide +kernel
theorem pd0 : parseMethodDescriptor "(IID)D" = some ⟨[.int, .int, .double], some .double⟩ := by decide +kernel
theorem pn0 : plainName "com/example/sessn/sessn/session/Weights" = true := by first | (simp [plainName, overriddenIn]; done) | decide +kernel
theorem pn1 : plainName "com/example/sessn/sessn/session/WeightsWeightPinLaw" = true := by first | (simp [plainName, overriddenIn]; done) | decide +kernel
theorem rm1 (l : Launch) (Z : State) (a0 : Array Value) (hw : ∀ d ∈ tables_1, d.before a0 Z = true) (gU : Addr) (x1 x2 : Int32) (z3 : UInt64) (h0 : Heap) (O0 : Old Z Z.heap.size h0) (SgU : Sta Z Z.heap "com/example/sessn/sessn/session/Weights" "UNIFORM" "Lcom/example/sessn/sessn/session/Weights;" (.ref gU)) :
    CtrN l Z (⟨"com/example/sessn/sessn/session/Weights", "weight", "(IID)D"⟩ : MethodName) prog_28_method_6_code 7 (some .double) [] (⟨0, 0, 0, 0⟩ : Room) #[(.ref gU), (.int x1), (.int x2), (.double z3)] h0 [] (fun v h => v = some (.double FP.dconst1)) := by
  refine CtrN.intro (L0 := #[.val (.ref gU), .val (.int x1), .val (.int x2), .val (.double z3), .second, .unset, .unset]) (plainFor_of_name pn0) O0 (fun m => by first | rfl | (simp [entryFrame, mkF, argsToLocals, Value.category]; done)) ?_
  intro p e s m below meth c T0 hy hml hret hlk hnm W0
  refine o_aloadN W0 (pc' := 1) (hb hy d1_0) rfl rfl rfl ?_
  refine o_getS W0 (w10 hw) Via.refl (SgU.ext W0.ox) (pc' := 4) (hb hy d1_1) rfl ?_
  intro T1 W1
  refine o_acmpN W1 (pc' := 7) (hb hy d1_4) rfl rfl (XT.aa_ne_f rfl) rfl ?_
  refine o_dconst1 W1 (pc' := 8) (hb hy d1_7) rfl rfl ?_
  refine o_dstore W1 (L' := #[.val (.ref gU), .val (.int x1), .val (.int x2), .val (.double z3), .second, .val (.double FP.dconst1), .second]) (pc' := 10) (hb hy d1_8) rfl rfl ?_
  refine o_goto W1 (pc' := 47) (hb hy d1_10) (by decide) rfl ?_
  refine o_dload W1 (pc' := 49) (hb hy d1_47) rfl rfl ?_
  exact o_retD W1 hlk hret (hb hy d1_49) (by decide) (by decide) rfl
theorem rm2 (l : Launch) (Z : State) (a0 : Array Value) (hw : ∀ d ∈ tables_1, d.before a0 Z = true) (gU : Addr) (x1 : Int32) (z2 : UInt64) (h0 : Heap) (O0 : Old Z Z.heap.size h0) (SgU : Sta Z Z.heap "com/example/sessn/sessn/session/Weights" "UNIFORM" "Lcom/example/sessn/sessn/session/Weights;" (.ref gU)) :
    CtrN l Z (⟨"com/example/sessn/sessn/session/Weights", "weight", "(IID)D"⟩ : MethodName) prog_28_method_6_code 7 (some .double) [] (⟨0, 0, 0, 0⟩ : Room) #[(.ref gU), (.int x1), (.int x1), (.double z2)] h0 [] (fun v h => v = some (.double FP.dconst1)) := by
  refine CtrN.intro (L0 := #[.val (.ref gU), .val (.int x1), .val (.int x1), .val (.double z2), .second, .unset, .unset]) (plainFor_of_name pn0) O0 (fun m => by first | rfl | (simp [entryFrame, mkF, argsToLocals, Value.category]; done)) ?_
  intro p e s m below meth c T0 hy hml hret hlk hnm W0
  refine o_aloadN W0 (pc' := 1) (hb hy d1_0) rfl rfl rfl ?_
  refine o_getS W0 (w10 hw) Via.refl (SgU.ext W0.ox) (pc' := 4) (hb hy d1_1) rfl ?_
  intro T1 W1
  refine o_acmpN W1 (pc' := 7) (hb hy d1_4) rfl rfl (XT.aa_ne_f rfl) rfl ?_
  refine o_dconst1 W1 (pc' := 8) (hb hy d1_7) rfl rfl ?_
  refine o_dstore W1 (L' := #[.val (.ref gU), .val (.int x1), .val (.int x1), .val (.double z2), .second, .val (.double FP.dconst1), .second]) (pc' := 10) (hb hy d1_8) rfl rfl ?_
  refine o_goto W1 (pc' := 47) (hb hy d1_10) (by decide) rfl ?_
  refine o_dload W1 (pc' := 49) (hb hy d1_47) rfl rfl ?_
  exact o_retD W1 hlk hret (hb hy d1_49) (by decide) (by decide) rfl
theorem rm3 (l : Launch) (Z : State) (a0 : Array Value) (hw : ∀ d ∈ tables_1, d.before a0 Z = true) (gU gP : Addr) (x1 x2 : Int32) (z3 : UInt64) (h0 : Heap) (O0 : Old Z Z.heap.size h0) (SgU : Sta Z Z.heap "com/example/sessn/sessn/session/Weights" "UNIFORM" "Lcom/example/sessn/sessn/session/Weights;" (.ref gU)) (negPgU : gP ≠ gU) (hc2 : x1 = x2) (hn3 : Jvm.Free.Fl.NoNaN64 (FP.dsub FP.dconst1 z3)) :
    CtrN l Z (⟨"com/example/sessn/sessn/session/Weights", "weight", "(IID)D"⟩ : MethodName) prog_28_method_6_code 7 (some .double) [] (⟨0, 0, 0, 0⟩ : Room) #[(.ref gP), (.int x1), (.int x2), (.double z3)] h0 [] (fun v h => v = some (.double (FP.dsub FP.dconst1 z3))) := by
  refine CtrN.intro (L0 := #[.val (.ref gP), .val (.int x1), .val (.int x2), .val (.double z3), .second, .unset, .unset]) (plainFor_of_name pn0) O0 (fun m => by first | rfl | (simp [entryFrame, mkF, argsToLocals, Value.category]; done)) ?_
  intro p e s m below meth c T0 hy hml hret hlk hnm W0
  refine o_aloadN W0 (pc' := 1) (hb hy d1_0) rfl rfl rfl ?_
  refine o_getS W0 (w10 hw) Via.refl (SgU.ext W0.ox) (pc' := 4) (hb hy d1_1) rfl ?_
  intro T1 W1
  refine o_acmpY W1 (pc' := 13) (hb hy d1_4) rfl rfl (XT.aa_ne_t (fun q => negPgU (Value.ref.inj q))) (by decide) rfl ?_
  refine o_iloadN W1 (pc' := 14) (hb hy d1_13) rfl rfl ?_
  refine o_iloadN W1 (pc' := 15) (hb hy d1_14) rfl rfl ?_
  refine o_icmpN W1 (pc' := 18) (hb hy d1_15) (XT.ii_ne_f hc2) rfl ?_
  refine o_dconst1 W1 (pc' := 19) (hb hy d1_18) rfl rfl ?_
  refine o_dloadN W1 (pc' := 20) (hb hy d1_19) rfl rfl ?_
  refine o_dsub W1 (v := (FP.dsub FP.dconst1 z3)) (pc' := 21) (hb hy d1_20) hn3 rfl rfl ?_
  refine o_dstore W1 (L' := #[.val (.ref gP), .val (.int x1), .val (.int x2), .val (.double z3), .second, .val (.double (FP.dsub FP.dconst1 z3)), .second]) (pc' := 23) (hb hy d1_21) rfl rfl ?_
  refine o_goto W1 (pc' := 47) (hb hy d1_23) (by decide) rfl ?_
  refine o_dload W1 (pc' := 49) (hb hy d1_47) rfl rfl ?_
  exact o_retD W1 hlk hret (hb hy d1_49) (by decide) (by decide) rfl
theorem rm4 (l : Launch) (Z : State) (a0 : Array Value) (hw : ∀ d ∈ tables_1, d.before a0 Z = true) (gU gP : Addr) (x1 x2 : Int32) (z3 : UInt64) (h0 : Heap) (O0 : Old Z Z.heap.size h0) (SgU : Sta Z Z.heap "com/example/sessn/sessn/session/Weights" "UNIFORM" "Lcom/example/sessn/sessn/session/Weights;" (.ref gU)) (negPgU : gP ≠ gU) (hc2 : ¬ (x1 = x2)) (SgP : Sta Z Z.heap "com/example/sessn/sessn/session/Weights" "PREV_CURRENT" "Lcom/example/sessn/sessn/session/Weights;" (.ref gP)) :
    CtrN l Z (⟨"com/example/sessn/sessn/session/Weights", "weight", "(IID)D"⟩ : MethodName) prog_28_method_6_code 7 (some .double) [] (⟨0, 0, 0, 0⟩ : Room) #[(.ref gP), (.int x1), (.int x2), (.double z3)] h0 [] (fun v h => v = some (.double z3)) := by
  refine CtrN.intro (L0 := #[.val (.ref gP), .val (.int x1), .val (.int x2), .val (.double z3), .second, .unset, .unset]) (plainFor_of_name pn0) O0 (fun m => by first | rfl | (simp [entryFrame, mkF, argsToLocals, Value.category]; done)) ?_
  intro p e s m below meth c T0 hy hml hret hlk hnm W0
  refine o_aloadN W0 (pc' := 1) (hb hy d1_0) rfl rfl rfl ?_
  refine o_getS W0 (w10 hw) Via.refl (SgU.ext W0.ox) (pc' := 4) (hb hy d1_1) rfl ?_
  intro T1 W1
  refine o_acmpY W1 (pc' := 13) (hb hy d1_4) rfl rfl (XT.aa_ne_t (fun q => negPgU (Value.ref.inj q))) (by decide) rfl ?_
  refine o_iloadN W1 (pc' := 14) (hb hy d1_13) rfl rfl ?_
  refine o_iloadN W1 (pc' := 15) (hb hy d1_14) rfl rfl ?_
  refine o_icmpY W1 (pc' := 26) (hb hy d1_15) (XT.ii_ne_t hc2) (by decide) rfl ?_
  refine o_aloadN W1 (pc' := 27) (hb hy d1_26) rfl rfl rfl ?_
  refine o_getS W1 (w15 hw) Via.refl (SgP.ext W1.ox) (pc' := 30) (hb hy d1_27) rfl ?_
  intro T3 W3
  refine o_acmpN W3 (pc' := 33) (hb hy d1_30) rfl rfl (XT.aa_ne_f rfl) rfl ?_
  refine o_dloadN W3 (pc' := 34) (hb hy d1_33) rfl rfl ?_
  refine o_dstore W3 (L' := #[.val (.ref gP), .val (.int x1), .val (.int x2), .val (.double z3), .second, .val (.double z3), .second]) (pc' := 36) (hb hy d1_34) rfl rfl ?_
  refine o_goto W3 (pc' := 47) (hb hy d1_36) (by decide) rfl ?_
  refine o_dload W3 (pc' := 49) (hb hy d1_47) rfl rfl ?_
  exact o_retD W3 hlk hret (hb hy d1_49) (by decide) (by decide) rfl
theorem rm5 (l : Launch) (Z : State) (a0 : Array Value) (hw : ∀ d ∈ tables_1, d.before a0 Z = true) (gU gP : Addr) (x1 : Int32) (z2 : UInt64) (h0 : Heap) (O0 : Old Z Z.heap.size h0) (SgU : Sta Z Z.heap "com/example/sessn/sessn/session/Weights" "UNIFORM" "Lcom/example/sessn/sessn/session/Weights;" (.ref gU)) (negPgU : gP ≠ gU) (hn2 : Jvm.Free.Fl.NoNaN64 (FP.dsub FP.dconst1 z2)) :
    CtrN l Z (⟨"com/example/sessn/sessn/session/Weights", "weight", "(IID)D"⟩ : MethodName) prog_28_method_6_code 7 (some .double) [] (⟨0, 0, 0, 0⟩ : Room) #[(.ref gP), (.int x1), (.int x1), (.double z2)] h0 [] (fun v h => v = some (.double (FP.dsub FP.dconst1 z2))) := by
  refine CtrN.intro (L0 := #[.val (.ref gP), .val (.int x1), .val (.int x1), .val (.double z2), .second, .unset, .unset]) (plainFor_of_name pn0) O0 (fun m => by first | rfl | (simp [entryFrame, mkF, argsToLocals, Value.category]; done)) ?_
  intro p e s m below meth c T0 hy hml hret hlk hnm W0
  refine o_aloadN W0 (pc' := 1) (hb hy d1_0) rfl rfl rfl ?_
  refine o_getS W0 (w10 hw) Via.refl (SgU.ext W0.ox) (pc' := 4) (hb hy d1_1) rfl ?_
  intro T1 W1
  refine o_acmpY W1 (pc' := 13) (hb hy d1_4) rfl rfl (XT.aa_ne_t (fun q => negPgU (Value.ref.inj q))) (by decide) rfl ?_
  refine o_iloadN W1 (pc' := 14) (hb hy d1_13) rfl rfl ?_
  refine o_iloadN W1 (pc' := 15) (hb hy d1_14) rfl rfl ?_
  refine o_icmpN W1 (pc' := 18) (hb hy d1_15) (XT.ii_ne_f rfl) rfl ?_
  refine o_dconst1 W1 (pc' := 19) (hb hy d1_18) rfl rfl ?_
  refine o_dloadN W1 (pc' := 20) (hb hy d1_19) rfl rfl ?_
  refine o_dsub W1 (v := (FP.dsub FP.dconst1 z2)) (pc' := 21) (hb hy d1_20) hn2 rfl rfl ?_
  refine o_dstore W1 (L' := #[.val (.ref gP), .val (.int x1), .val (.int x1), .val (.double z2), .second, .val (.double (FP.dsub FP.dconst1 z2)), .second]) (pc' := 23) (hb hy d1_21) rfl rfl ?_
  refine o_goto W1 (pc' := 47) (hb hy d1_23) (by decide) rfl ?_
  refine o_dload W1 (pc' := 49) (hb hy d1_47) rfl rfl ?_
  exact o_retD W1 hlk hret (hb hy d1_49) (by decide) (by decide) rfl
theorem rm6 (l : Launch) (Z : State) (a0 : Array Value) (hw : ∀ d ∈ tables_1, d.before a0 Z = true) (gU gD : Addr) (x1 x2 : Int32) (z3 : UInt64) (h0 : Heap) (O0 : Old Z Z.heap.size h0) (SgU : Sta Z Z.heap "com/example/sessn/sessn/session/Weights" "UNIFORM" "Lcom/example/sessn/sessn/session/Weights;" (.ref gU)) (negDgU : gD ≠ gU) (hc2 : x1 = x2) (hn3 : Jvm.Free.Fl.NoNaN64 (FP.dsub FP.dconst1 z3)) :
    CtrN l Z (⟨"com/example/sessn/sessn/session/Weights", "weight", "(IID)D"⟩ : MethodName) prog_28_method_6_code 7 (some .double) [] (⟨0, 0, 0, 0⟩ : Room) #[(.ref gD), (.int x1), (.int x2), (.double z3)] h0 [] (fun v h => v = some (.double (FP.dsub FP.dconst1 z3))) := by
  refine CtrN.intro (L0 := #[.val (.ref gD), .val (.int x1), .val (.int x2), .val (.double z3), .second, .unset, .unset]) (plainFor_of_name pn0) O0 (fun m => by first | rfl | (simp [entryFrame, mkF, argsToLocals, Value.category]; done)) ?_
  intro p e s m below meth c T0 hy hml hret hlk hnm W0
  refine o_aloadN W0 (pc' := 1) (hb hy d1_0) rfl rfl rfl ?_
  refine o_getS W0 (w10 hw) Via.refl (SgU.ext W0.ox) (pc' := 4) (hb hy d1_1) rfl ?_
  intro T1 W1
  refine o_acmpY W1 (pc' := 13) (hb hy d1_4) rfl rfl (XT.aa_ne_t (fun q => negDgU (Value.ref.inj q))) (by decide) rfl ?_
  refine o_iloadN W1 (pc' := 14) (hb hy d1_13) rfl rfl ?_
  refine o_iloadN W1 (pc' := 15) (hb hy d1_14) rfl rfl ?_
  refine o_icmpN W1 (pc' := 18) (hb hy d1_15) (XT.ii_ne_f hc2) rfl ?_
  refine o_dconst1 W1 (pc' := 19) (hb hy d1_18) rfl rfl ?_
  refine o_dloadN W1 (pc' := 20) (hb hy d1_19) rfl rfl ?_
  refine o_dsub W1 (v := (FP.dsub FP.dconst1 z3)) (pc' := 21) (hb hy d1_20) hn3 rfl rfl ?_
  refine o_dstore W1 (L' := #[.val (.ref gD), .val (.int x1), .val (.int x2), .val (.double z3), .second, .val (.double (FP.dsub FP.dconst1 z3)), .second]) (pc' := 23) (hb hy d1_21) rfl rfl ?_
  refine o_goto W1 (pc' := 47) (hb hy d1_23) (by decide) rfl ?_
  refine o_dload W1 (pc' := 49) (hb hy d1_47) rfl rfl ?_
  exact o_retD W1 hlk hret (hb hy d1_49) (by decide) (by decide) rfl
theorem rm7 (l : Launch) (Z : State) (a0 : Array Value) (hw : ∀ d ∈ tables_1, d.before a0 Z = true) (gU gP gD : Addr) (x1 x2 : Int32) (z3 : UInt64) (h0 : Heap) (O0 : Old Z Z.heap.size h0) (SgU : Sta Z Z.heap "com/example/sessn/sessn/session/Weights" "UNIFORM" "Lcom/example/sessn/sessn/session/Weights;" (.ref gU)) (negDgU : gD ≠ gU) (hc2 : ¬ (x1 = x2)) (SgP : Sta Z Z.heap "com/example/sessn/sessn/session/Weights" "PREV_CURRENT" "Lcom/example/sessn/sessn/session/Weights;" (.ref gP)) (negDgP : gD ≠ gP) (hn4 : Jvm.Free.Fl.NoNaN64 (FP.ddiv z3 (FP.i2d (x2 - x1)))) :
    CtrN l Z (⟨"com/example/sessn/sessn/session/Weights", "weight", "(IID)D"⟩ : MethodName) prog_28_method_6_code 7 (some .double) [] (⟨0, 0, 0, 0⟩ : Room) #[(.ref gD), (.int x1), (.int x2), (.double z3)] h0 [] (fun v h => v = some (.double (FP.ddiv z3 (FP.i2d (x2 - x1))))) := by
  refine CtrN.intro (L0 := #[.val (.ref gD), .val (.int x1), .val (.int x2), .val (.double z3), .second, .unset, .unset]) (plainFor_of_name pn0) O0 (fun m => by first | rfl | (simp [entryFrame, mkF, argsToLocals, Value.category]; done)) ?_
  intro p e s m below meth c T0 hy hml hret hlk hnm W0
  refine o_aloadN W0 (pc' := 1) (hb hy d1_0) rfl rfl rfl ?_
  refine o_getS W0 (w10 hw) Via.refl (SgU.ext W0.ox) (pc' := 4) (hb hy d1_1) rfl ?_
  intro T1 W1
  refine o_acmpY W1 (pc' := 13) (hb hy d1_4) rfl rfl (XT.aa_ne_t (fun q => negDgU (Value.ref.inj q))) (by decide) rfl ?_
  refine o_iloadN W1 (pc' := 14) (hb hy d1_13) rfl rfl ?_
  refine o_iloadN W1 (pc' := 15) (hb hy d1_14) rfl rfl ?_
  refine o_icmpY W1 (pc' := 26) (hb hy d1_15) (XT.ii_ne_t hc2) (by decide) rfl ?_
  refine o_aloadN W1 (pc' := 27) (hb hy d1_26) rfl rfl rfl ?_
  refine o_getS W1 (w15 hw) Via.refl (SgP.ext W1.ox) (pc' := 30) (hb hy d1_27) rfl ?_
  intro T3 W3
  refine o_acmpY W3 (pc' := 39) (hb hy d1_30) rfl rfl (XT.aa_ne_t (fun q => negDgP (Value.ref.inj q))) (by decide) rfl ?_
  refine o_dloadN W3 (pc' := 40) (hb hy d1_39) rfl rfl ?_
  refine o_iloadN W3 (pc' := 41) (hb hy d1_40) rfl rfl ?_
  refine o_iloadN W3 (pc' := 42) (hb hy d1_41) rfl rfl ?_
  refine o_isub W3 (v := (x2 - x1)) (pc' := 43) (hb hy d1_42) rfl rfl ?_
  refine o_i2d W3 (v := (FP.i2d (x2 - x1))) (pc' := 44) (hb hy d1_43) rfl rfl ?_
  refine o_ddiv W3 (v := (FP.ddiv z3 (FP.i2d (x2 - x1)))) (pc' := 45) (hb hy d1_44) hn4 rfl rfl ?_
  refine o_dstore W3 (L' := #[.val (.ref gD), .val (.int x1), .val (.int x2), .val (.double z3), .second, .val (.double (FP.ddiv z3 (FP.i2d (x2 - x1)))), .second]) (pc' := 47) (hb hy d1_45) rfl rfl ?_
  refine o_dload W3 (pc' := 49) (hb hy d1_47) rfl rfl ?_
  exact o_retD W3 hlk hret (hb hy d1_49) (by decide) (by decide) rfl
theorem rm8 (l : Launch) (Z : State) (a0 : Array Value) (hw : ∀ d ∈ tables_1, d.before a0 Z = true) (gU gD : Addr) (x1 : Int32) (z2 : UInt64) (h0 : Heap) (O0 : Old Z Z.heap.size h0) (SgU : Sta Z Z.heap "com/example/sessn/sessn/session/Weights" "UNIFORM" "Lcom/example/sessn/sessn/session/Weights;" (.ref gU)) (negDgU : gD ≠ gU) (hn2 : Jvm.Free.Fl.NoNaN64 (FP.dsub FP.dconst1 z2)) :
    CtrN l Z (⟨"com/example/sessn/sessn/session/Weights", "weight", "(IID)D"⟩ : MethodName) prog_28_method_6_code 7 (some .double) [] (⟨0, 0, 0, 0⟩ : Room) #[(.ref gD), (.int x1), (.int x1), (.double z2)] h0 [] (fun v h => v = some (.double (FP.dsub FP.dconst1 z2))) := by
  refine CtrN.intro (L0 := #[.val (.ref gD), .val (.int x1), .val (.int x1), .val (.double z2), .second, .unset, .unset]) (plainFor_of_name pn0) O0 (fun m => by first | rfl | (simp [entryFrame, mkF, argsToLocals, Value.category]; done)) ?_
  intro p e s m below meth c T0 hy hml hret hlk hnm W0
  refine o_aloadN W0 (pc' := 1) (hb hy d1_0) rfl rfl rfl ?_
  refine o_getS W0 (w10 hw) Via.refl (SgU.ext W0.ox) (pc' := 4) (hb hy d1_1) rfl ?_
  intro T1 W1
  refine o_acmpY W1 (pc' := 13) (hb hy d1_4) rfl rfl (XT.aa_ne_t (fun q => negDgU (Value.ref.inj q))) (by decide) rfl ?_
  refine o_iloadN W1 (pc' := 14) (hb hy d1_13) rfl rfl ?_
  refine o_iloadN W1 (pc' := 15) (hb hy d1_14) rfl rfl ?_
  refine o_icmpN W1 (pc' := 18) (hb hy d1_15) (XT.ii_ne_f rfl) rfl ?_
  refine o_dconst1 W1 (pc' := 19) (hb hy d1_18) rfl rfl ?_
  refine o_dloadN W1 (pc' := 20) (hb hy d1_19) rfl rfl ?_
  refine o_dsub W1 (v := (FP.dsub FP.dconst1 z2)) (pc' := 21) (hb hy d1_20) hn2 rfl rfl ?_
  refine o_dstore W1 (L' := #[.val (.ref gD), .val (.int x1), .val (.int x1), .val (.double z2), .second, .val (.double (FP.dsub FP.dconst1 z2)), .second]) (pc' := 23) (hb hy d1_21) rfl rfl ?_
  refine o_goto W1 (pc' := 47) (hb hy d1_23) (by decide) rfl ?_
  refine o_dload W1 (pc' := 49) (hb hy d1_47) rfl rfl ?_
  exact o_retD W1 hlk hret (hb hy d1_49) (by decide) (by decide) rfl
theorem rm_law (l : Launch) (Z : State) (a0 : Array Value) (hw : ∀ d ∈ tables_1, d.before a0 Z = true) (gU gP gD : Addr) (p0 p1 p2 p3 p4 : Int32) (h0 : Heap) (O0 : Old Z Z.heap.size h0) (SgU : Sta Z Z.heap "com/example/sessn/sessn/session/Weights" "UNIFORM" "Lcom/example/sessn/sessn/session/Weights;" (.ref gU)) (XgU : Exa Z Z.heap gU "com/example/sessn/sessn/session/Weights") (SgP : Sta Z Z.heap "com/example/sessn/sessn/session/Weights" "PREV_CURRENT" "Lcom/example/sessn/sessn/session/Weights;" (.ref gP)) (negPgU : gP ≠ gU) (XgP : Exa Z Z.heap gP "com/example/sessn/sessn/session/Weights") (SgD : Sta Z Z.heap "com/example/sessn/sessn/session/Weights" "DISTANCE" "Lcom/example/sessn/sessn/session/Weights;" (.ref gD)) (negDgU : gD ≠ gU) (XgD : Exa Z Z.heap gD "com/example/sessn/sessn/session/Weights") (negDgP : gD ≠ gP) :
    CtrN l Z x code maxLocals ret tables_1 room_1 #[(.int p0), (.int p1), (.int p2), (.int p3), (.int p4)] h0 [] (fun v _ => v = some (.int 1)) := by
  refine CtrN.intro (L0 := #[.val (.int p0), .val (.int p1), .val (.int p2), .val (.int p3), .val (.int p4), .unset, .unset, .unset, .unset, .unset, .unset, .unset, .unset, .unset, .unset, .unset]) (plainFor_of_name pn1) O0 (fun m => by first | rfl | (simp [entryFrame, mkF, argsToLocals, Value.category, maxLocals]; done)) ?_
  intro p e s m below meth c T0 hy hml hret hlk hnm W0
  refine o_iloadN W0 (pc' := 1) (hb hy at_0) rfl rfl ?_
  refine o_ldcI W0 (w0 hw) (pc' := 3) (hb hy at_1) rfl ?_
  refine o_iand W0 (v := (p0 &&& (2147483647 : Int32))) (pc' := 4) (hb hy at_3) rfl rfl ?_
  refine o_iconst W0 (v := 3) (pc' := 5) (hb hy at_4) rfl rfl ?_
  refine o_irem W0 (v := ((p0 &&& (2147483647 : Int32)) % (3 : Int32))) (pc' := 6) (hb hy at_5) (by decide) rfl rfl ?_
  refine o_istore W0 (L' := #[.val (.int p0), .val (.int p1), .val (.int p2), .val (.int p3), .val (.int p4), .val (.int ((p0 &&& (2147483647 : Int32)) % (3 : Int32))), .unset, .unset, .unset, .unset, .unset, .unset, .unset, .unset, .unset, .unset]) (pc' := 8) (hb hy at_6) rfl rfl ?_
  refine o_iload W0 (pc' := 10) (hb hy at_8) rfl rfl ?_
  by_cases hs0 : ((p0 &&& (2147483647 : Int32)) % (3 : Int32)) = (0 : Int32)
  · refine o_ifN W0 (pc' := 13) (hb hy at_10) (XT.i0_ne_f hs0) rfl ?_
    refine o_getS W0 (w1 hw) Via.refl (SgU.ext W0.ox) (pc' := 16) (hb hy at_13) rfl ?_
    intro T1 W1
    refine o_astore W1 (L' := #[.val (.int p0), .val (.int p1), .val (.int p2), .val (.int p3), .val (.int p4), .val (.int ((p0 &&& (2147483647 : Int32)) % (3 : Int32))), .val (.ref gU), .unset, .unset, .unset, .unset, .unset, .unset, .unset, .unset, .unset]) (pc' := 18) (hb hy at_16) rfl rfl rfl ?_
    refine o_goto W1 (pc' := 40) (hb hy at_18) (by decide) rfl ?_
    refine o_iconst W1 (v := 1) (pc' := 41) (hb hy at_40) rfl rfl ?_
    refine o_iloadN W1 (pc' := 42) (hb hy at_41) rfl rfl ?_
    refine o_ldcI W1 (w0 hw) (pc' := 44) (hb hy at_42) rfl ?_
    refine o_iand W1 (v := (p2 &&& (2147483647 : Int32))) (pc' := 45) (hb hy at_44) rfl rfl ?_
    refine o_ldcI W1 (w0 hw) (pc' := 47) (hb hy at_45) rfl ?_
    refine o_irem W1 (v := ((p2 &&& (2147483647 : Int32)) % (2147483647 : Int32))) (pc' := 48) (hb hy at_47) (by decide) rfl rfl ?_
    refine o_iadd W1 (v := ((1 : Int32) + ((p2 &&& (2147483647 : Int32)) % (2147483647 : Int32)))) (pc' := 49) (hb hy at_48) rfl rfl ?_
    refine o_istore W1 (L' := #[.val (.int p0), .val (.int p1), .val (.int p2), .val (.int p3), .val (.int p4), .val (.int ((p0 &&& (2147483647 : Int32)) % (3 : Int32))), .val (.ref gU), .val (.int ((1 : Int32) + ((p2 &&& (2147483647 : Int32)) % (2147483647 : Int32)))), .unset, .unset, .unset, .unset, .unset, .unset, .unset, .unset]) (pc' := 51) (hb hy at_49) rfl rfl ?_
    refine o_iload W1 (pc' := 53) (hb hy at_51) rfl rfl ?_
    refine o_iconst W1 (v := 1) (pc' := 54) (hb hy at_53) rfl rfl ?_
    refine o_iand W1 (v := (p4 &&& (1 : Int32))) (pc' := 55) (hb hy at_54) rfl rfl ?_
    by_cases hf2 : (p4 &&& (1 : Int32)) = (0 : Int32)
    · refine o_ifY W1 (pc' := 65) (hb hy at_55) (XT.i0_eq_t hf2) (by decide) rfl ?_
      refine o_iconst W1 (v := 1) (pc' := 66) (hb hy at_65) rfl rfl ?_
      refine o_iloadN W1 (pc' := 67) (hb hy at_66) rfl rfl ?_
      refine o_ldcI W1 (w0 hw) (pc' := 69) (hb hy at_67) rfl ?_
      refine o_iand W1 (v := (p1 &&& (2147483647 : Int32))) (pc' := 70) (hb hy at_69) rfl rfl ?_
      refine o_iload W1 (pc' := 72) (hb hy at_70) rfl rfl ?_
      refine o_irem W1 (v := ((p1 &&& (2147483647 : Int32)) % ((1 : Int32) + ((p2 &&& (2147483647 : Int32)) % (2147483647 : Int32))))) (pc' := 73) (hb hy at_72) (own_n0 _) rfl rfl ?_
      refine o_iadd W1 (v := ((1 : Int32) + ((p1 &&& (2147483647 : Int32)) % ((1 : Int32) + ((p2 &&& (2147483647 : Int32)) % (2147483647 : Int32)))))) (pc' := 74) (hb hy at_73) rfl rfl ?_
      refine o_istore W1 (L' := #[.val (.int p0), .val (.int p1), .val (.int p2), .val (.int p3), .val (.int p4), .val (.int ((p0 &&& (2147483647 : Int32)) % (3 : Int32))), .val (.ref gU), .val (.int ((1 : Int32) + ((p2 &&& (2147483647 : Int32)) % (2147483647 : Int32)))), .val (.int ((1 : Int32) + ((p1 &&& (2147483647 : Int32)) % ((1 : Int32) + ((p2 &&& (2147483647 : Int32)) % (2147483647 : Int32)))))), .unset, .unset, .unset, .unset, .unset, .unset, .unset]) (pc' := 76) (hb hy at_74) rfl rfl ?_
      refine o_iloadN W1 (pc' := 77) (hb hy at_76) rfl rfl ?_
      refine o_ldcI W1 (w0 hw) (pc' := 79) (hb hy at_77) rfl ?_
      refine o_iand W1 (v := (p3 &&& (2147483647 : Int32))) (pc' := 80) (hb hy at_79) rfl rfl ?_
      refine o_sipush W1 (v := 1025) (pc' := 83) (hb hy at_80) (by decide) rfl ?_
      refine o_irem W1 (v := ((p3 &&& (2147483647 : Int32)) % (1025 : Int32))) (pc' := 84) (hb hy at_83) (by decide) rfl rfl ?_
      refine o_i2d W1 (v := (FP.i2d ((p3 &&& (2147483647 : Int32)) % (1025 : Int32)))) (pc' := 85) (hb hy at_84) rfl rfl ?_
      refine o_ldcD W1 (w4 hw) (pc' := 88) (hb hy at_85) rfl ?_
      refine o_ddiv W1 (v := (FP.ddiv (FP.i2d ((p3 &&& (2147483647 : Int32)) % (1025 : Int32))) (4652218415073722368 : UInt64))) (pc' := 89) (hb hy at_88) (own_lam _).2 rfl rfl ?_
      refine o_dstore W1 (L' := #[.val (.int p0), .val (.int p1), .val (.int p2), .val (.int p3), .val (.int p4), .val (.int ((p0 &&& (2147483647 : Int32)) % (3 : Int32))), .val (.ref gU), .val (.int ((1 : Int32) + ((p2 &&& (2147483647 : Int32)) % (2147483647 : Int32)))), .val (.int ((1 : Int32) + ((p1 &&& (2147483647 : Int32)) % ((1 : Int32) + ((p2 &&& (2147483647 : Int32)) % (2147483647 : Int32)))))), .val (.double (FP.ddiv (FP.i2d ((p3 &&& (2147483647 : Int32)) % (1025 : Int32))) (4652218415073722368 : UInt64))), .second, .unset, .unset, .unset, .unset, .unset]) (pc' := 91) (hb hy at_89) rfl rfl ?_
      refine o_aload W1 (pc' := 93) (hb hy at_91) rfl rfl rfl ?_
      refine o_iload W1 (pc' := 95) (hb hy at_93) rfl rfl ?_
      refine o_iload W1 (pc' := 97) (hb hy at_95) rfl rfl ?_
      refine o_dload W1 (pc' := 99) (hb hy at_97) rfl rfl ?_
      by_cases hk3 : ((1 : Int32) + ((p1 &&& (2147483647 : Int32)) % ((1 : Int32) + ((p2 &&& (2147483647 : Int32)) % (2147483647 : Int32))))) = ((1 : Int32) + ((p2 &&& (2147483647 : Int32)) % (2147483647 : Int32)))
      · refine o_virtual W1 (y := (⟨"com/example/sessn/sessn/session/Weights", "weight", "(IID)D"⟩ : MethodName)) (z := (⟨"com/example/sessn/sessn/session/Weights", "weight", "(IID)D"⟩ : MethodName)) (w5 hw) (w6 hw) (o_nf W1 rfl (w8 hw)) (w8 hw) (w7 hw) (by decide) (XgU.ext W1.ox) (argsL := [(.int ((1 : Int32) + ((p1 &&& (2147483647 : Int32)) % ((1 : Int32) + ((p2 &&& (2147483647 : Int32)) % (2147483647 : Int32)))))), (.int ((1 : Int32) + ((p2 &&& (2147483647 : Int32)) % (2147483647 : Int32)))), (.double (FP.ddiv (FP.i2d ((p3 &&& (2147483647 : Int32)) % (1025 : Int32))) (4652218415073722368 : UInt64)))]) (CtrN.back (Wd := 0) W1 (rm1 l Z a0 hw gU ((1 : Int32) + ((p1 &&& (2147483647 : Int32)) % ((1 : Int32) + ((p2 &&& (2147483647 : Int32)) % (2147483647 : Int32))))) ((1 : Int32) + ((p2 &&& (2147483647 : Int32)) % (2147483647 : Int32))) (FP.ddiv (FP.i2d ((p3 &&& (2147483647 : Int32)) % (1025 : Int32))) (4652218415073722368 : UInt64)) h0 W1.old SgU) (w9 hw) (w2 hw) (by decide) (by decide)) (by rw [hml]; rfl) (lenOf pd0 rfl) (S := []) rfl (by exact Nat.le_of_eq rfl) (pc' := 102) (hb hy at_99) rfl (cells' := 0) (slots' := 0) rfl rfl (by decide) (by decide) (wy := []) (fun _ _ _ q => ⟨q.1, q.2.1⟩) all0 (fun _ _ => trivial) ?_
        intro v4 T4 h4 lo4 W4 K4 q4
        obtain rfl := q4.2.2
        show Gl _ _ _ _ _ _ _ _ [(.double FP.dconst1)]
        refine o_dstore W4 (L' := #[.val (.int p0), .val (.int p1), .val (.int p2), .val (.int p3), .val (.int p4), .val (.int ((p0 &&& (2147483647 : Int32)) % (3 : Int32))), .val (.ref gU), .val (.int ((1 : Int32) + ((p2 &&& (2147483647 : Int32)) % (2147483647 : Int32)))), .val (.int ((1 : Int32) + ((p1 &&& (2147483647 : Int32)) % ((1 : Int32) + ((p2 &&& (2147483647 : Int32)) % (2147483647 : Int32)))))), .val (.double (FP.ddiv (FP.i2d ((p3 &&& (2147483647 : Int32)) % (1025 : Int32))) (4652218415073722368 : UInt64))), .second, .val (.double FP.dconst1), .second, .unset, .unset, .unset]) (pc' := 104) (hb hy at_102) rfl rfl ?_
        refine o_iload W4 (pc' := 106) (hb hy at_104) rfl rfl ?_
        refine o_ifN W4 (pc' := 109) (hb hy at_106) (XT.i0_ne_f hs0) rfl ?_
        refine o_dconst1 W4 (pc' := 110) (hb hy at_109) rfl rfl ?_
        refine o_dstore W4 (L' := #[.val (.int p0), .val (.int p1), .val (.int p2), .val (.int p3), .val (.int p4), .val (.int ((p0 &&& (2147483647 : Int32)) % (3 : Int32))), .val (.ref gU), .val (.int ((1 : Int32) + ((p2 &&& (2147483647 : Int32)) % (2147483647 : Int32)))), .val (.int ((1 : Int32) + ((p1 &&& (2147483647 : Int32)) % ((1 : Int32) + ((p2 &&& (2147483647 : Int32)) % (2147483647 : Int32)))))), .val (.double (FP.ddiv (FP.i2d ((p3 &&& (2147483647 : Int32)) % (1025 : Int32))) (4652218415073722368 : UInt64))), .second, .val (.double FP.dconst1), .second, .val (.double FP.dconst1), .second, .unset]) (pc' := 112) (hb hy at_110) rfl rfl ?_
        refine o_goto W4 (pc' := 159) (hb hy at_112) (by decide) rfl ?_
        refine o_dload W4 (pc' := 161) (hb hy at_159) rfl rfl ?_
        refine o_dload W4 (pc' := 163) (hb hy at_161) rfl rfl ?_
        refine o_dcmp W4 (v := 0) (pc' := 164) (hb hy at_163) (dcmpV_self own_one .l) rfl ?_
        refine o_ifN W4 (pc' := 167) (hb hy at_164) (XT.i0_ne_f (by decide)) rfl ?_
        refine o_iconst W4 (v := 1) (pc' := 168) (hb hy at_167) rfl rfl ?_
        refine o_goto W4 (pc' := 172) (hb hy at_168) (by decide) rfl ?_
        exact o_retN W4 hlk (t := .boolean) hret (by simp) (z' := (1 : Int32)) (by decide) (hb hy at_172) (by decide) (by decide) rfl
      · have hd := own_sub0 hk3
        refine o_virtual W1 (y := (⟨"com/example/sessn/sessn/session/Weights", "weight", "(IID)D"⟩ : MethodName)) (z := (⟨"com/example/sessn/sessn/session/Weights", "weight", "(IID)D"⟩ : MethodName)) (w5 hw) (w6 hw) (o_nf W1 rfl (w8 hw)) (w8 hw) (w7 hw) (by decide) (XgU.ext W1.ox) (argsL := [(.int ((1 : Int32) + ((p1 &&& (2147483647 : Int32)) % ((1 : Int32) + ((p2 &&& (2147483647 : Int32)) % (2147483647 : Int32)))))), (.int ((1 : Int32) + ((p2 &&& (2147483647 : Int32)) % (2147483647 : Int32)))), (.double (FP.ddiv (FP.i2d ((p3 &&& (2147483647 : Int32)) % (1025 : Int32))) (4652218415073722368 : UInt64)))]) (CtrN.back (Wd := 0) W1 (rm1 l Z a0 hw gU ((1 : Int32) + ((p1 &&& (2147483647 : Int32)) % ((1 : Int32) + ((p2 &&& (2147483647 : Int32)) % (2147483647 : Int32))))) ((1 : Int32) + ((p2 &&& (2147483647 : Int32)) % (2147483647 : Int32))) (FP.ddiv (FP.i2d ((p3 &&& (2147483647 : Int32)) % (1025 : Int32))) (4652218415073722368 : UInt64)) h0 W1.old SgU) (w9 hw) (w2 hw) (by decide) (by decide)) (by rw [hml]; rfl) (lenOf pd0 rfl) (S := []) rfl (by exact Nat.le_of_eq rfl) (pc' := 102) (hb hy at_99) rfl (cells' := 0) (slots' := 0) rfl rfl (by decide) (by decide) (wy := []) (fun _ _ _ q => ⟨q.1, q.2.1⟩) all0 (fun _ _ => trivial) ?_
        intro v5 T5 h5 lo5 W5 K5 q5
        obtain rfl := q5.2.2
        show Gl _ _ _ _ _ _ _ _ [(.double FP.dconst1)]
        refine o_dstore W5 (L' := #[.val (.int p0), .val (.int p1), .val (.int p2), .val (.int p3), .val (.int p4), .val (.int ((p0 &&& (2147483647 : Int32)) % (3 : Int32))), .val (.ref gU), .val (.int ((1 : Int32) + ((p2 &&& (2147483647 : Int32)) % (2147483647 : Int32)))), .val (.int ((1 : Int32) + ((p1 &&& (2147483647 : Int32)) % ((1 : Int32) + ((p2 &&& (2147483647 : Int32)) % (2147483647 : Int32)))))), .val (.double (FP.ddiv (FP.i2d ((p3 &&& (2147483647 : Int32)) % (1025 : Int32))) (4652218415073722368 : UInt64))), .second, .val (.double FP.dconst1), .second, .unset, .unset, .unset]) (pc' := 104) (hb hy at_102) rfl rfl ?_
        refine o_iload W5 (pc' := 106) (hb hy at_104) rfl rfl ?_
        refine o_ifN W5 (pc' := 109) (hb hy at_106) (XT.i0_ne_f hs0) rfl ?_
        refine o_dconst1 W5 (pc' := 110) (hb hy at_109) rfl rfl ?_
        refine o_dstore W5 (L' := #[.val (.int p0), .val (.int p1), .val (.int p2), .val (.int p3), .val (.int p4), .val (.int ((p0 &&& (2147483647 : Int32)) % (3 : Int32))), .val (.ref gU), .val (.int ((1 : Int32) + ((p2 &&& (2147483647 : Int32)) % (2147483647 : Int32)))), .val (.int ((1 : Int32) + ((p1 &&& (2147483647 : Int32)) % ((1 : Int32) + ((p2 &&& (2147483647 : Int32)) % (2147483647 : Int32)))))), .val (.double (FP.ddiv (FP.i2d ((p3 &&& (2147483647 : Int32)) % (1025 : Int32))) (4652218415073722368 : UInt64))), .second, .val (.double FP.dconst1), .second, .val (.double FP.dconst1), .second, .unset]) (pc' := 112) (hb hy at_110) rfl rfl ?_
        refine o_goto W5 (pc' := 159) (hb hy at_112) (by decide) rfl ?_
        refine o_dload W5 (pc' := 161) (hb hy at_159) rfl rfl ?_
        refine o_dload W5 (pc' := 163) (hb hy at_161) rfl rfl ?_
        refine o_dcmp W5 (v := 0) (pc' := 164) (hb hy at_163) (dcmpV_self own_one .l) rfl ?_
        refine o_ifN W5 (pc' := 167) (hb hy at_164) (XT.i0_ne_f (by decide)) rfl ?_
        refine o_iconst W5 (v := 1) (pc' := 168) (hb hy at_167) rfl rfl ?_
        refine o_goto W5 (pc' := 172) (hb hy at_168) (by decide) rfl ?_
        exact o_retN W5 hlk (t := .boolean) hret (by simp) (z' := (1 : Int32)) (by decide) (hb hy at_172) (by decide) (by decide) rfl
    · refine o_ifN W1 (pc' := 58) (hb hy at_55) (XT.i0_eq_f hf2) rfl ?_
      refine o_iload W1 (pc' := 60) (hb hy at_58) rfl rfl ?_
      refine o_istore W1 (L' := #[.val (.int p0), .val (.int p1), .val (.int p2), .val (.int p3), .val (.int p4), .val (.int ((p0 &&& (2147483647 : Int32)) % (3 : Int32))), .val (.ref gU), .val (.int ((1 : Int32) + ((p2 &&& (2147483647 : Int32)) % (2147483647 : Int32)))), .val (.int ((1 : Int32) + ((p2 &&& (2147483647 : Int32)) % (2147483647 : Int32)))), .unset, .unset, .unset, .unset, .unset, .unset, .unset]) (pc' := 62) (hb hy at_60) rfl rfl ?_
      refine o_goto W1 (pc' := 76) (hb hy at_62) (by decide) rfl ?_
      refine o_iloadN W1 (pc' := 77) (hb hy at_76) rfl rfl ?_
      refine o_ldcI W1 (w0 hw) (pc' := 79) (hb hy at_77) rfl ?_
      refine o_iand W1 (v := (p3 &&& (2147483647 : Int32))) (pc' := 80) (hb hy at_79) rfl rfl ?_
      refine o_sipush W1 (v := 1025) (pc' := 83) (hb hy at_80) (by decide) rfl ?_
      refine o_irem W1 (v := ((p3 &&& (2147483647 : Int32)) % (1025 : Int32))) (pc' := 84) (hb hy at_83) (by decide) rfl rfl ?_
      refine o_i2d W1 (v := (FP.i2d ((p3 &&& (2147483647 : Int32)) % (1025 : Int32)))) (pc' := 85) (hb hy at_84) rfl rfl ?_
      refine o_ldcD W1 (w4 hw) (pc' := 88) (hb hy at_85) rfl ?_
      refine o_ddiv W1 (v := (FP.ddiv (FP.i2d ((p3 &&& (2147483647 : Int32)) % (1025 : Int32))) (4652218415073722368 : UInt64))) (pc' := 89) (hb hy at_88) (own_lam _).2 rfl rfl ?_
      refine o_dstore W1 (L' := #[.val (.int p0), .val (.int p1), .val (.int p2), .val (.int p3), .val (.int p4), .val (.int ((p0 &&& (2147483647 : Int32)) % (3 : Int32))), .val (.ref gU), .val (.int ((1 : Int32) + ((p2 &&& (2147483647 : Int32)) % (2147483647 : Int32)))), .val (.int ((1 : Int32) + ((p2 &&& (2147483647 : Int32)) % (2147483647 : Int32)))), .val (.double (FP.ddiv (FP.i2d ((p3 &&& (2147483647 : Int32)) % (1025 : Int32))) (4652218415073722368 : UInt64))), .second, .unset, .unset, .unset, .unset, .unset]) (pc' := 91) (hb hy at_89) rfl rfl ?_
      refine o_aload W1 (pc' := 93) (hb hy at_91) rfl rfl rfl ?_
      refine o_iload W1 (pc' := 95) (hb hy at_93) rfl rfl ?_
      refine o_iload W1 (pc' := 97) (hb hy at_95) rfl rfl ?_
      refine o_dload W1 (pc' := 99) (hb hy at_97) rfl rfl ?_
      refine o_virtual W1 (y := (⟨"com/example/sessn/sessn/session/Weights", "weight", "(IID)D"⟩ : MethodName)) (z := (⟨"com/example/sessn/sessn/session/Weights", "weight", "(IID)D"⟩ : MethodName)) (w5 hw) (w6 hw) (o_nf W1 rfl (w8 hw)) (w8 hw) (w7 hw) (by decide) (XgU.ext W1.ox) (argsL := [(.int ((1 : Int32) + ((p2 &&& (2147483647 : Int32)) % (2147483647 : Int32)))), (.int ((1 : Int32) + ((p2 &&& (2147483647 : Int32)) % (2147483647 : Int32)))), (.double (FP.ddiv (FP.i2d ((p3 &&& (2147483647 : Int32)) % (1025 : Int32))) (4652218415073722368 : UInt64)))]) (CtrN.back (Wd := 0) W1 (rm2 l Z a0 hw gU ((1 : Int32) + ((p2 &&& (2147483647 : Int32)) % (2147483647 : Int32))) (FP.ddiv (FP.i2d ((p3 &&& (2147483647 : Int32)) % (1025 : Int32))) (4652218415073722368 : UInt64)) h0 W1.old SgU) (w9 hw) (w2 hw) (by decide) (by decide)) (by rw [hml]; rfl) (lenOf pd0 rfl) (S := []) rfl (by exact Nat.le_of_eq rfl) (pc' := 102) (hb hy at_99) rfl (cells' := 0) (slots' := 0) rfl rfl (by decide) (by decide) (wy := []) (fun _ _ _ q => ⟨q.1, q.2.1⟩) all0 (fun _ _ => trivial) ?_
      intro v6 T6 h6 lo6 W6 K6 q6
      obtain rfl := q6.2.2
      show Gl _ _ _ _ _ _ _ _ [(.double FP.dconst1)]
      refine o_dstore W6 (L' := #[.val (.int p0), .val (.int p1), .val (.int p2), .val (.int p3), .val (.int p4), .val (.int ((p0 &&& (2147483647 : Int32)) % (3 : Int32))), .val (.ref gU), .val (.int ((1 : Int32) + ((p2 &&& (2147483647 : Int32)) % (2147483647 : Int32)))), .val (.int ((1 : Int32) + ((p2 &&& (2147483647 : Int32)) % (2147483647 : Int32)))), .val (.double (FP.ddiv (FP.i2d ((p3 &&& (2147483647 : Int32)) % (1025 : Int32))) (4652218415073722368 : UInt64))), .second, .val (.double FP.dconst1), .second, .unset, .unset, .unset]) (pc' := 104) (hb hy at_102) rfl rfl ?_
      refine o_iload W6 (pc' := 106) (hb hy at_104) rfl rfl ?_
      refine o_ifN W6 (pc' := 109) (hb hy at_106) (XT.i0_ne_f hs0) rfl ?_
      refine o_dconst1 W6 (pc' := 110) (hb hy at_109) rfl rfl ?_
      refine o_dstore W6 (L' := #[.val (.int p0), .val (.int p1), .val (.int p2), .val (.int p3), .val (.int p4), .val (.int ((p0 &&& (2147483647 : Int32)) % (3 : Int32))), .val (.ref gU), .val (.int ((1 : Int32) + ((p2 &&& (2147483647 : Int32)) % (2147483647 : Int32)))), .val (.int ((1 : Int32) + ((p2 &&& (2147483647 : Int32)) % (2147483647 : Int32)))), .val (.double (FP.ddiv (FP.i2d ((p3 &&& (2147483647 : Int32)) % (1025 : Int32))) (4652218415073722368 : UInt64))), .second, .val (.double FP.dconst1), .second, .val (.double FP.dconst1), .second, .unset]) (pc' := 112) (hb hy at_110) rfl rfl ?_
      refine o_goto W6 (pc' := 159) (hb hy at_112) (by decide) rfl ?_
      refine o_dload W6 (pc' := 161) (hb hy at_159) rfl rfl ?_
      refine o_dload W6 (pc' := 163) (hb hy at_161) rfl rfl ?_
      refine o_dcmp W6 (v := 0) (pc' := 164) (hb hy at_163) (dcmpV_self own_one .l) rfl ?_
      refine o_ifN W6 (pc' := 167) (hb hy at_164) (XT.i0_ne_f (by decide)) rfl ?_
      refine o_iconst W6 (v := 1) (pc' := 168) (hb hy at_167) rfl rfl ?_
      refine o_goto W6 (pc' := 172) (hb hy at_168) (by decide) rfl ?_
      exact o_retN W6 hlk (t := .boolean) hret (by simp) (z' := (1 : Int32)) (by decide) (hb hy at_172) (by decide) (by decide) rfl
  · refine o_ifY W0 (pc' := 21) (hb hy at_10) (XT.i0_ne_t hs0) (by decide) rfl ?_
    refine o_iload W0 (pc' := 23) (hb hy at_21) rfl rfl ?_
    refine o_iconst W0 (v := 1) (pc' := 24) (hb hy at_23) rfl rfl ?_
    by_cases hs1 : ((p0 &&& (2147483647 : Int32)) % (3 : Int32)) = (1 : Int32)
    · refine o_icmpN W0 (pc' := 27) (hb hy at_24) (XT.ii_ne_f hs1) rfl ?_
      refine o_getS W0 (w13 hw) Via.refl (SgP.ext W0.ox) (pc' := 30) (hb hy at_27) rfl ?_
      intro T7 W7
      refine o_astore W7 (L' := #[.val (.int p0), .val (.int p1), .val (.int p2), .val (.int p3), .val (.int p4), .val (.int ((p0 &&& (2147483647 : Int32)) % (3 : Int32))), .val (.ref gP), .unset, .unset, .unset, .unset, .unset, .unset, .unset, .unset, .unset]) (pc' := 32) (hb hy at_30) rfl rfl rfl ?_
      refine o_goto W7 (pc' := 40) (hb hy at_32) (by decide) rfl ?_
      refine o_iconst W7 (v := 1) (pc' := 41) (hb hy at_40) rfl rfl ?_
      refine o_iloadN W7 (pc' := 42) (hb hy at_41) rfl rfl ?_
      refine o_ldcI W7 (w0 hw) (pc' := 44) (hb hy at_42) rfl ?_
      refine o_iand W7 (v := (p2 &&& (2147483647 : Int32))) (pc' := 45) (hb hy at_44) rfl rfl ?_
      refine o_ldcI W7 (w0 hw) (pc' := 47) (hb hy at_45) rfl ?_
      refine o_irem W7 (v := ((p2 &&& (2147483647 : Int32)) % (2147483647 : Int32))) (pc' := 48) (hb hy at_47) (by decide) rfl rfl ?_
      refine o_iadd W7 (v := ((1 : Int32) + ((p2 &&& (2147483647 : Int32)) % (2147483647 : Int32)))) (pc' := 49) (hb hy at_48) rfl rfl ?_
      refine o_istore W7 (L' := #[.val (.int p0), .val (.int p1), .val (.int p2), .val (.int p3), .val (.int p4), .val (.int ((p0 &&& (2147483647 : Int32)) % (3 : Int32))), .val (.ref gP), .val (.int ((1 : Int32) + ((p2 &&& (2147483647 : Int32)) % (2147483647 : Int32)))), .unset, .unset, .unset, .unset, .unset, .unset, .unset, .unset]) (pc' := 51) (hb hy at_49) rfl rfl ?_
      refine o_iload W7 (pc' := 53) (hb hy at_51) rfl rfl ?_
      refine o_iconst W7 (v := 1) (pc' := 54) (hb hy at_53) rfl rfl ?_
      refine o_iand W7 (v := (p4 &&& (1 : Int32))) (pc' := 55) (hb hy at_54) rfl rfl ?_
      by_cases hf8 : (p4 &&& (1 : Int32)) = (0 : Int32)
      · refine o_ifY W7 (pc' := 65) (hb hy at_55) (XT.i0_eq_t hf8) (by decide) rfl ?_
        refine o_iconst W7 (v := 1) (pc' := 66) (hb hy at_65) rfl rfl ?_
        refine o_iloadN W7 (pc' := 67) (hb hy at_66) rfl rfl ?_
        refine o_ldcI W7 (w0 hw) (pc' := 69) (hb hy at_67) rfl ?_
        refine o_iand W7 (v := (p1 &&& (2147483647 : Int32))) (pc' := 70) (hb hy at_69) rfl rfl ?_
        refine o_iload W7 (pc' := 72) (hb hy at_70) rfl rfl ?_
        refine o_irem W7 (v := ((p1 &&& (2147483647 : Int32)) % ((1 : Int32) + ((p2 &&& (2147483647 : Int32)) % (2147483647 : Int32))))) (pc' := 73) (hb hy at_72) (own_n0 _) rfl rfl ?_
        refine o_iadd W7 (v := ((1 : Int32) + ((p1 &&& (2147483647 : Int32)) % ((1 : Int32) + ((p2 &&& (2147483647 : Int32)) % (2147483647 : Int32)))))) (pc' := 74) (hb hy at_73) rfl rfl ?_
        refine o_istore W7 (L' := #[.val (.int p0), .val (.int p1), .val (.int p2), .val (.int p3), .val (.int p4), .val (.int ((p0 &&& (2147483647 : Int32)) % (3 : Int32))), .val (.ref gP), .val (.int ((1 : Int32) + ((p2 &&& (2147483647 : Int32)) % (2147483647 : Int32)))), .val (.int ((1 : Int32) + ((p1 &&& (2147483647 : Int32)) % ((1 : Int32) + ((p2 &&& (2147483647 : Int32)) % (2147483647 : Int32)))))), .unset, .unset, .unset, .unset, .unset, .unset, .unset]) (pc' := 76) (hb hy at_74) rfl rfl ?_
        refine o_iloadN W7 (pc' := 77) (hb hy at_76) rfl rfl ?_
        refine o_ldcI W7 (w0 hw) (pc' := 79) (hb hy at_77) rfl ?_
        refine o_iand W7 (v := (p3 &&& (2147483647 : Int32))) (pc' := 80) (hb hy at_79) rfl rfl ?_
        refine o_sipush W7 (v := 1025) (pc' := 83) (hb hy at_80) (by decide) rfl ?_
        refine o_irem W7 (v := ((p3 &&& (2147483647 : Int32)) % (1025 : Int32))) (pc' := 84) (hb hy at_83) (by decide) rfl rfl ?_
        refine o_i2d W7 (v := (FP.i2d ((p3 &&& (2147483647 : Int32)) % (1025 : Int32)))) (pc' := 85) (hb hy at_84) rfl rfl ?_
        refine o_ldcD W7 (w4 hw) (pc' := 88) (hb hy at_85) rfl ?_
        refine o_ddiv W7 (v := (FP.ddiv (FP.i2d ((p3 &&& (2147483647 : Int32)) % (1025 : Int32))) (4652218415073722368 : UInt64))) (pc' := 89) (hb hy at_88) (own_lam _).2 rfl rfl ?_
        refine o_dstore W7 (L' := #[.val (.int p0), .val (.int p1), .val (.int p2), .val (.int p3), .val (.int p4), .val (.int ((p0 &&& (2147483647 : Int32)) % (3 : Int32))), .val (.ref gP), .val (.int ((1 : Int32) + ((p2 &&& (2147483647 : Int32)) % (2147483647 : Int32)))), .val (.int ((1 : Int32) + ((p1 &&& (2147483647 : Int32)) % ((1 : Int32) + ((p2 &&& (2147483647 : Int32)) % (2147483647 : Int32)))))), .val (.double (FP.ddiv (FP.i2d ((p3 &&& (2147483647 : Int32)) % (1025 : Int32))) (4652218415073722368 : UInt64))), .second, .unset, .unset, .unset, .unset, .unset]) (pc' := 91) (hb hy at_89) rfl rfl ?_
        refine o_aload W7 (pc' := 93) (hb hy at_91) rfl rfl rfl ?_
        refine o_iload W7 (pc' := 95) (hb hy at_93) rfl rfl ?_
        refine o_iload W7 (pc' := 97) (hb hy at_95) rfl rfl ?_
        refine o_dload W7 (pc' := 99) (hb hy at_97) rfl rfl ?_
        by_cases hk9 : ((1 : Int32) + ((p1 &&& (2147483647 : Int32)) % ((1 : Int32) + ((p2 &&& (2147483647 : Int32)) % (2147483647 : Int32))))) = ((1 : Int32) + ((p2 &&& (2147483647 : Int32)) % (2147483647 : Int32)))
        · refine o_virtual W7 (y := (⟨"com/example/sessn/sessn/session/Weights", "weight", "(IID)D"⟩ : MethodName)) (z := (⟨"com/example/sessn/sessn/session/Weights", "weight", "(IID)D"⟩ : MethodName)) (w5 hw) (w6 hw) (o_nf W7 rfl (w8 hw)) (w8 hw) (w7 hw) (by decide) (XgP.ext W7.ox) (argsL := [(.int ((1 : Int32) + ((p1 &&& (2147483647 : Int32)) % ((1 : Int32) + ((p2 &&& (2147483647 : Int32)) % (2147483647 : Int32)))))), (.int ((1 : Int32) + ((p2 &&& (2147483647 : Int32)) % (2147483647 : Int32)))), (.double (FP.ddiv (FP.i2d ((p3 &&& (2147483647 : Int32)) % (1025 : Int32))) (4652218415073722368 : UInt64)))]) (CtrN.back (Wd := 0) W7 (rm3 l Z a0 hw gU gP ((1 : Int32) + ((p1 &&& (2147483647 : Int32)) % ((1 : Int32) + ((p2 &&& (2147483647 : Int32)) % (2147483647 : Int32))))) ((1 : Int32) + ((p2 &&& (2147483647 : Int32)) % (2147483647 : Int32))) (FP.ddiv (FP.i2d ((p3 &&& (2147483647 : Int32)) % (1025 : Int32))) (4652218415073722368 : UInt64)) h0 W7.old SgU negPgU hk9 (own_sub _).2) (w9 hw) (w2 hw) (by decide) (by decide)) (by rw [hml]; rfl) (lenOf pd0 rfl) (S := []) rfl (by exact Nat.le_of_eq rfl) (pc' := 102) (hb hy at_99) rfl (cells' := 0) (slots' := 0) rfl rfl (by decide) (by decide) (wy := []) (fun _ _ _ q => ⟨q.1, q.2.1⟩) all0 (fun _ _ => trivial) ?_
          intro v10 T10 h10 lo10 W10 K10 q10
          obtain rfl := q10.2.2
          show Gl _ _ _ _ _ _ _ _ [(.double (FP.dsub FP.dconst1 (FP.ddiv (FP.i2d ((p3 &&& (2147483647 : Int32)) % (1025 : Int32))) (4652218415073722368 : UInt64))))]
          refine o_dstore W10 (L' := #[.val (.int p0), .val (.int p1), .val (.int p2), .val (.int p3), .val (.int p4), .val (.int ((p0 &&& (2147483647 : Int32)) % (3 : Int32))), .val (.ref gP), .val (.int ((1 : Int32) + ((p2 &&& (2147483647 : Int32)) % (2147483647 : Int32)))), .val (.int ((1 : Int32) + ((p1 &&& (2147483647 : Int32)) % ((1 : Int32) + ((p2 &&& (2147483647 : Int32)) % (2147483647 : Int32)))))), .val (.double (FP.ddiv (FP.i2d ((p3 &&& (2147483647 : Int32)) % (1025 : Int32))) (4652218415073722368 : UInt64))), .second, .val (.double (FP.dsub FP.dconst1 (FP.ddiv (FP.i2d ((p3 &&& (2147483647 : Int32)) % (1025 : Int32))) (4652218415073722368 : UInt64)))), .second, .unset, .unset, .unset]) (pc' := 104) (hb hy at_102) rfl rfl ?_
          refine o_iload W10 (pc' := 106) (hb hy at_104) rfl rfl ?_
          refine o_ifY W10 (pc' := 115) (hb hy at_106) (XT.i0_ne_t hs0) (by decide) rfl ?_
          refine o_iload W10 (pc' := 117) (hb hy at_115) rfl rfl ?_
          refine o_iload W10 (pc' := 119) (hb hy at_117) rfl rfl ?_
          refine o_icmpN W10 (pc' := 122) (hb hy at_119) (XT.ii_ne_f hk9) rfl ?_
          refine o_dconst1 W10 (pc' := 123) (hb hy at_122) rfl rfl ?_
          refine o_dload W10 (pc' := 125) (hb hy at_123) rfl rfl ?_
          refine o_dsub W10 (v := (FP.dsub FP.dconst1 (FP.ddiv (FP.i2d ((p3 &&& (2147483647 : Int32)) % (1025 : Int32))) (4652218415073722368 : UInt64)))) (pc' := 126) (hb hy at_125) (own_sub _).2 rfl rfl ?_
          refine o_dstore W10 (L' := #[.val (.int p0), .val (.int p1), .val (.int p2), .val (.int p3), .val (.int p4), .val (.int ((p0 &&& (2147483647 : Int32)) % (3 : Int32))), .val (.ref gP), .val (.int ((1 : Int32) + ((p2 &&& (2147483647 : Int32)) % (2147483647 : Int32)))), .val (.int ((1 : Int32) + ((p1 &&& (2147483647 : Int32)) % ((1 : Int32) + ((p2 &&& (2147483647 : Int32)) % (2147483647 : Int32)))))), .val (.double (FP.ddiv (FP.i2d ((p3 &&& (2147483647 : Int32)) % (1025 : Int32))) (4652218415073722368 : UInt64))), .second, .val (.double (FP.dsub FP.dconst1 (FP.ddiv (FP.i2d ((p3 &&& (2147483647 : Int32)) % (1025 : Int32))) (4652218415073722368 : UInt64)))), .second, .val (.double (FP.dsub FP.dconst1 (FP.ddiv (FP.i2d ((p3 &&& (2147483647 : Int32)) % (1025 : Int32))) (4652218415073722368 : UInt64)))), .second, .unset]) (pc' := 128) (hb hy at_126) rfl rfl ?_
          refine o_goto W10 (pc' := 159) (hb hy at_128) (by decide) rfl ?_
          refine o_dload W10 (pc' := 161) (hb hy at_159) rfl rfl ?_
          refine o_dload W10 (pc' := 163) (hb hy at_161) rfl rfl ?_
          refine o_dcmp W10 (v := 0) (pc' := 164) (hb hy at_163) (dcmpV_self (own_sub _).2 .l) rfl ?_
          refine o_ifN W10 (pc' := 167) (hb hy at_164) (XT.i0_ne_f (by decide)) rfl ?_
          refine o_iconst W10 (v := 1) (pc' := 168) (hb hy at_167) rfl rfl ?_
          refine o_goto W10 (pc' := 172) (hb hy at_168) (by decide) rfl ?_
          exact o_retN W10 hlk (t := .boolean) hret (by simp) (z' := (1 : Int32)) (by decide) (hb hy at_172) (by decide) (by decide) rfl
        · have hd := own_sub0 hk9
          refine o_virtual W7 (y := (⟨"com/example/sessn/sessn/session/Weights", "weight", "(IID)D"⟩ : MethodName)) (z := (⟨"com/example/sessn/sessn/session/Weights", "weight", "(IID)D"⟩ : MethodName)) (w5 hw) (w6 hw) (o_nf W7 rfl (w8 hw)) (w8 hw) (w7 hw) (by decide) (XgP.ext W7.ox) (argsL := [(.int ((1 : Int32) + ((p1 &&& (2147483647 : Int32)) % ((1 : Int32) + ((p2 &&& (2147483647 : Int32)) % (2147483647 : Int32)))))), (.int ((1 : Int32) + ((p2 &&& (2147483647 : Int32)) % (2147483647 : Int32)))), (.double (FP.ddiv (FP.i2d ((p3 &&& (2147483647 : Int32)) % (1025 : Int32))) (4652218415073722368 : UInt64)))]) (CtrN.back (Wd := 0) W7 (rm4 l Z a0 hw gU gP ((1 : Int32) + ((p1 &&& (2147483647 : Int32)) % ((1 : Int32) + ((p2 &&& (2147483647 : Int32)) % (2147483647 : Int32))))) ((1 : Int32) + ((p2 &&& (2147483647 : Int32)) % (2147483647 : Int32))) (FP.ddiv (FP.i2d ((p3 &&& (2147483647 : Int32)) % (1025 : Int32))) (4652218415073722368 : UInt64)) h0 W7.old SgU negPgU hk9 SgP) (w9 hw) (w2 hw) (by decide) (by decide)) (by rw [hml]; rfl) (lenOf pd0 rfl) (S := []) rfl (by exact Nat.le_of_eq rfl) (pc' := 102) (hb hy at_99) rfl (cells' := 0) (slots' := 0) rfl rfl (by decide) (by decide) (wy := []) (fun _ _ _ q => ⟨q.1, q.2.1⟩) all0 (fun _ _ => trivial) ?_
          intro v11 T11 h11 lo11 W11 K11 q11
          obtain rfl := q11.2.2
          show Gl _ _ _ _ _ _ _ _ [(.double (FP.ddiv (FP.i2d ((p3 &&& (2147483647 : Int32)) % (1025 : Int32))) (4652218415073722368 : UInt64)))]
          refine o_dstore W11 (L' := #[.val (.int p0), .val (.int p1), .val (.int p2), .val (.int p3), .val (.int p4), .val (.int ((p0 &&& (2147483647 : Int32)) % (3 : Int32))), .val (.ref gP), .val (.int ((1 : Int32) + ((p2 &&& (2147483647 : Int32)) % (2147483647 : Int32)))), .val (.int ((1 : Int32) + ((p1 &&& (2147483647 : Int32)) % ((1 : Int32) + ((p2 &&& (2147483647 : Int32)) % (2147483647 : Int32)))))), .val (.double (FP.ddiv (FP.i2d ((p3 &&& (2147483647 : Int32)) % (1025 : Int32))) (4652218415073722368 : UInt64))), .second, .val (.double (FP.ddiv (FP.i2d ((p3 &&& (2147483647 : Int32)) % (1025 : Int32))) (4652218415073722368 : UInt64))), .second, .unset, .unset, .unset]) (pc' := 104) (hb hy at_102) rfl rfl ?_
          refine o_iload W11 (pc' := 106) (hb hy at_104) rfl rfl ?_
          refine o_ifY W11 (pc' := 115) (hb hy at_106) (XT.i0_ne_t hs0) (by decide) rfl ?_
          refine o_iload W11 (pc' := 117) (hb hy at_115) rfl rfl ?_
          refine o_iload W11 (pc' := 119) (hb hy at_117) rfl rfl ?_
          refine o_icmpY W11 (pc' := 131) (hb hy at_119) (XT.ii_ne_t hk9) (by decide) rfl ?_
          refine o_iload W11 (pc' := 133) (hb hy at_131) rfl rfl ?_
          refine o_iconst W11 (v := 1) (pc' := 134) (hb hy at_133) rfl rfl ?_
          refine o_icmpN W11 (pc' := 137) (hb hy at_134) (XT.ii_ne_f hs1) rfl ?_
          refine o_dload W11 (pc' := 139) (hb hy at_137) rfl rfl ?_
          refine o_dstore W11 (L' := #[.val (.int p0), .val (.int p1), .val (.int p2), .val (.int p3), .val (.int p4), .val (.int ((p0 &&& (2147483647 : Int32)) % (3 : Int32))), .val (.ref gP), .val (.int ((1 : Int32) + ((p2 &&& (2147483647 : Int32)) % (2147483647 : Int32)))), .val (.int ((1 : Int32) + ((p1 &&& (2147483647 : Int32)) % ((1 : Int32) + ((p2 &&& (2147483647 : Int32)) % (2147483647 : Int32)))))), .val (.double (FP.ddiv (FP.i2d ((p3 &&& (2147483647 : Int32)) % (1025 : Int32))) (4652218415073722368 : UInt64))), .second, .val (.double (FP.ddiv (FP.i2d ((p3 &&& (2147483647 : Int32)) % (1025 : Int32))) (4652218415073722368 : UInt64))), .second, .val (.double (FP.ddiv (FP.i2d ((p3 &&& (2147483647 : Int32)) % (1025 : Int32))) (4652218415073722368 : UInt64))), .second, .unset]) (pc' := 141) (hb hy at_139) rfl rfl ?_
          refine o_goto W11 (pc' := 159) (hb hy at_141) (by decide) rfl ?_
          refine o_dload W11 (pc' := 161) (hb hy at_159) rfl rfl ?_
          refine o_dload W11 (pc' := 163) (hb hy at_161) rfl rfl ?_
          refine o_dcmp W11 (v := 0) (pc' := 164) (hb hy at_163) (dcmpV_self (own_lam _).2 .l) rfl ?_
          refine o_ifN W11 (pc' := 167) (hb hy at_164) (XT.i0_ne_f (by decide)) rfl ?_
          refine o_iconst W11 (v := 1) (pc' := 168) (hb hy at_167) rfl rfl ?_
          refine o_goto W11 (pc' := 172) (hb hy at_168) (by decide) rfl ?_
          exact o_retN W11 hlk (t := .boolean) hret (by simp) (z' := (1 : Int32)) (by decide) (hb hy at_172) (by decide) (by decide) rfl
      · refine o_ifN W7 (pc' := 58) (hb hy at_55) (XT.i0_eq_f hf8) rfl ?_
        refine o_iload W7 (pc' := 60) (hb hy at_58) rfl rfl ?_
        refine o_istore W7 (L' := #[.val (.int p0), .val (.int p1), .val (.int p2), .val (.int p3), .val (.int p4), .val (.int ((p0 &&& (2147483647 : Int32)) % (3 : Int32))), .val (.ref gP), .val (.int ((1 : Int32) + ((p2 &&& (2147483647 : Int32)) % (2147483647 : Int32)))), .val (.int ((1 : Int32) + ((p2 &&& (2147483647 : Int32)) % (2147483647 : Int32)))), .unset, .unset, .unset, .unset, .unset, .unset, .unset]) (pc' := 62) (hb hy at_60) rfl rfl ?_
        refine o_goto W7 (pc' := 76) (hb hy at_62) (by decide) rfl ?_
        refine o_iloadN W7 (pc' := 77) (hb hy at_76) rfl rfl ?_
        refine o_ldcI W7 (w0 hw) (pc' := 79) (hb hy at_77) rfl ?_
        refine o_iand W7 (v := (p3 &&& (2147483647 : Int32))) (pc' := 80) (hb hy at_79) rfl rfl ?_
        refine o_sipush W7 (v := 1025) (pc' := 83) (hb hy at_80) (by decide) rfl ?_
        refine o_irem W7 (v := ((p3 &&& (2147483647 : Int32)) % (1025 : Int32))) (pc' := 84) (hb hy at_83) (by decide) rfl rfl ?_
        refine o_i2d W7 (v := (FP.i2d ((p3 &&& (2147483647 : Int32)) % (1025 : Int32)))) (pc' := 85) (hb hy at_84) rfl rfl ?_
        refine o_ldcD W7 (w4 hw) (pc' := 88) (hb hy at_85) rfl ?_
        refine o_ddiv W7 (v := (FP.ddiv (FP.i2d ((p3 &&& (2147483647 : Int32)) % (1025 : Int32))) (4652218415073722368 : UInt64))) (pc' := 89) (hb hy at_88) (own_lam _).2 rfl rfl ?_
        refine o_dstore W7 (L' := #[.val (.int p0), .val (.int p1), .val (.int p2), .val (.int p3), .val (.int p4), .val (.int ((p0 &&& (2147483647 : Int32)) % (3 : Int32))), .val (.ref gP), .val (.int ((1 : Int32) + ((p2 &&& (2147483647 : Int32)) % (2147483647 : Int32)))), .val (.int ((1 : Int32) + ((p2 &&& (2147483647 : Int32)) % (2147483647 : Int32)))), .val (.double (FP.ddiv (FP.i2d ((p3 &&& (2147483647 : Int32)) % (1025 : Int32))) (4652218415073722368 : UInt64))), .second, .unset, .unset, .unset, .unset, .unset]) (pc' := 91) (hb hy at_89) rfl rfl ?_
        refine o_aload W7 (pc' := 93) (hb hy at_91) rfl rfl rfl ?_
        refine o_iload W7 (pc' := 95) (hb hy at_93) rfl rfl ?_
        refine o_iload W7 (pc' := 97) (hb hy at_95) rfl rfl ?_
        refine o_dload W7 (pc' := 99) (hb hy at_97) rfl rfl ?_
        refine o_virtual W7 (y := (⟨"com/example/sessn/sessn/session/Weights", "weight", "(IID)D"⟩ : MethodName)) (z := (⟨"com/example/sessn/sessn/session/Weights", "weight", "(IID)D"⟩ : MethodName)) (w5 hw) (w6 hw) (o_nf W7 rfl (w8 hw)) (w8 hw) (w7 hw) (by decide) (XgP.ext W7.ox) (argsL := [(.int ((1 : Int32) + ((p2 &&& (2147483647 : Int32)) % (2147483647 : Int32)))), (.int ((1 : Int32) + ((p2 &&& (2147483647 : Int32)) % (2147483647 : Int32)))), (.double (FP.ddiv (FP.i2d ((p3 &&& (2147483647 : Int32)) % (1025 : Int32))) (4652218415073722368 : UInt64)))]) (CtrN.back (Wd := 0) W7 (rm5 l Z a0 hw gU gP ((1 : Int32) + ((p2 &&& (2147483647 : Int32)) % (2147483647 : Int32))) (FP.ddiv (FP.i2d ((p3 &&& (2147483647 : Int32)) % (1025 : Int32))) (4652218415073722368 : UInt64)) h0 W7.old SgU negPgU (own_sub _).2) (w9 hw) (w2 hw) (by decide) (by decide)) (by rw [hml]; rfl) (lenOf pd0 rfl) (S := []) rfl (by exact Nat.le_of_eq rfl) (pc' := 102) (hb hy at_99) rfl (cells' := 0) (slots' := 0) rfl rfl (by decide) (by decide) (wy := []) (fun _ _ _ q => ⟨q.1, q.2.1⟩) all0 (fun _ _ => trivial) ?_
        intro v12 T12 h12 lo12 W12 K12 q12
        obtain rfl := q12.2.2
        show Gl _ _ _ _ _ _ _ _ [(.double (FP.dsub FP.dconst1 (FP.ddiv (FP.i2d ((p3 &&& (2147483647 : Int32)) % (1025 : Int32))) (4652218415073722368 : UInt64))))]
        refine o_dstore W12 (L' := #[.val (.int p0), .val (.int p1), .val (.int p2), .val (.int p3), .val (.int p4), .val (.int ((p0 &&& (2147483647 : Int32)) % (3 : Int32))), .val (.ref gP), .val (.int ((1 : Int32) + ((p2 &&& (2147483647 : Int32)) % (2147483647 : Int32)))), .val (.int ((1 : Int32) + ((p2 &&& (2147483647 : Int32)) % (2147483647 : Int32)))), .val (.double (FP.ddiv (FP.i2d ((p3 &&& (2147483647 : Int32)) % (1025 : Int32))) (4652218415073722368 : UInt64))), .second, .val (.double (FP.dsub FP.dconst1 (FP.ddiv (FP.i2d ((p3 &&& (2147483647 : Int32)) % (1025 : Int32))) (4652218415073722368 : UInt64)))), .second, .unset, .unset, .unset]) (pc' := 104) (hb hy at_102) rfl rfl ?_
        refine o_iload W12 (pc' := 106) (hb hy at_104) rfl rfl ?_
        refine o_ifY W12 (pc' := 115) (hb hy at_106) (XT.i0_ne_t hs0) (by decide) rfl ?_
        refine o_iload W12 (pc' := 117) (hb hy at_115) rfl rfl ?_
        refine o_iload W12 (pc' := 119) (hb hy at_117) rfl rfl ?_
        refine o_icmpN W12 (pc' := 122) (hb hy at_119) (XT.ii_ne_f rfl) rfl ?_
        refine o_dconst1 W12 (pc' := 123) (hb hy at_122) rfl rfl ?_
        refine o_dload W12 (pc' := 125) (hb hy at_123) rfl rfl ?_
        refine o_dsub W12 (v := (FP.dsub FP.dconst1 (FP.ddiv (FP.i2d ((p3 &&& (2147483647 : Int32)) % (1025 : Int32))) (4652218415073722368 : UInt64)))) (pc' := 126) (hb hy at_125) (own_sub _).2 rfl rfl ?_
        refine o_dstore W12 (L' := #[.val (.int p0), .val (.int p1), .val (.int p2), .val (.int p3), .val (.int p4), .val (.int ((p0 &&& (2147483647 : Int32)) % (3 : Int32))), .val (.ref gP), .val (.int ((1 : Int32) + ((p2 &&& (2147483647 : Int32)) % (2147483647 : Int32)))), .val (.int ((1 : Int32) + ((p2 &&& (2147483647 : Int32)) % (2147483647 : Int32)))), .val (.double (FP.ddiv (FP.i2d ((p3 &&& (2147483647 : Int32)) % (1025 : Int32))) (4652218415073722368 : UInt64))), .second, .val (.double (FP.dsub FP.dconst1 (FP.ddiv (FP.i2d ((p3 &&& (2147483647 : Int32)) % (1025 : Int32))) (4652218415073722368 : UInt64)))), .second, .val (.double (FP.dsub FP.dconst1 (FP.ddiv (FP.i2d ((p3 &&& (2147483647 : Int32)) % (1025 : Int32))) (4652218415073722368 : UInt64)))), .second, .unset]) (pc' := 128) (hb hy at_126) rfl rfl ?_
        refine o_goto W12 (pc' := 159) (hb hy at_128) (by decide) rfl ?_
        refine o_dload W12 (pc' := 161) (hb hy at_159) rfl rfl ?_
        refine o_dload W12 (pc' := 163) (hb hy at_161) rfl rfl ?_
        refine o_dcmp W12 (v := 0) (pc' := 164) (hb hy at_163) (dcmpV_self (own_sub _).2 .l) rfl ?_
        refine o_ifN W12 (pc' := 167) (hb hy at_164) (XT.i0_ne_f (by decide)) rfl ?_
        refine o_iconst W12 (v := 1) (pc' := 168) (hb hy at_167) rfl rfl ?_
        refine o_goto W12 (pc' := 172) (hb hy at_168) (by decide) rfl ?_
        exact o_retN W12 hlk (t := .boolean) hret (by simp) (z' := (1 : Int32)) (by decide) (hb hy at_172) (by decide) (by decide) rfl
    · refine o_icmpY W0 (pc' := 35) (hb hy at_24) (XT.ii_ne_t hs1) (by decide) rfl ?_
      refine o_getS W0 (w11 hw) Via.refl (SgD.ext W0.ox) (pc' := 38) (hb hy at_35) rfl ?_
      intro T13 W13
      refine o_astore W13 (L' := #[.val (.int p0), .val (.int p1), .val (.int p2), .val (.int p3), .val (.int p4), .val (.int ((p0 &&& (2147483647 : Int32)) % (3 : Int32))), .val (.ref gD), .unset, .unset, .unset, .unset, .unset, .unset, .unset, .unset, .unset]) (pc' := 40) (hb hy at_38) rfl rfl rfl ?_
      refine o_iconst W13 (v := 1) (pc' := 41) (hb hy at_40) rfl rfl ?_
      refine o_iloadN W13 (pc' := 42) (hb hy at_41) rfl rfl ?_
      refine o_ldcI W13 (w0 hw) (pc' := 44) (hb hy at_42) rfl ?_
      refine o_iand W13 (v := (p2 &&& (2147483647 : Int32))) (pc' := 45) (hb hy at_44) rfl rfl ?_
      refine o_ldcI W13 (w0 hw) (pc' := 47) (hb hy at_45) rfl ?_
      refine o_irem W13 (v := ((p2 &&& (2147483647 : Int32)) % (2147483647 : Int32))) (pc' := 48) (hb hy at_47) (by decide) rfl rfl ?_
      refine o_iadd W13 (v := ((1 : Int32) + ((p2 &&& (2147483647 : Int32)) % (2147483647 : Int32)))) (pc' := 49) (hb hy at_48) rfl rfl ?_
      refine o_istore W13 (L' := #[.val (.int p0), .val (.int p1), .val (.int p2), .val (.int p3), .val (.int p4), .val (.int ((p0 &&& (2147483647 : Int32)) % (3 : Int32))), .val (.ref gD), .val (.int ((1 : Int32) + ((p2 &&& (2147483647 : Int32)) % (2147483647 : Int32)))), .unset, .unset, .unset, .unset, .unset, .unset, .unset, .unset]) (pc' := 51) (hb hy at_49) rfl rfl ?_
      refine o_iload W13 (pc' := 53) (hb hy at_51) rfl rfl ?_
      refine o_iconst W13 (v := 1) (pc' := 54) (hb hy at_53) rfl rfl ?_
      refine o_iand W13 (v := (p4 &&& (1 : Int32))) (pc' := 55) (hb hy at_54) rfl rfl ?_
      by_cases hf14 : (p4 &&& (1 : Int32)) = (0 : Int32)
      · refine o_ifY W13 (pc' := 65) (hb hy at_55) (XT.i0_eq_t hf14) (by decide) rfl ?_
        refine o_iconst W13 (v := 1) (pc' := 66) (hb hy at_65) rfl rfl ?_
        refine o_iloadN W13 (pc' := 67) (hb hy at_66) rfl rfl ?_
        refine o_ldcI W13 (w0 hw) (pc' := 69) (hb hy at_67) rfl ?_
        refine o_iand W13 (v := (p1 &&& (2147483647 : Int32))) (pc' := 70) (hb hy at_69) rfl rfl ?_
        refine o_iload W13 (pc' := 72) (hb hy at_70) rfl rfl ?_
        refine o_irem W13 (v := ((p1 &&& (2147483647 : Int32)) % ((1 : Int32) + ((p2 &&& (2147483647 : Int32)) % (2147483647 : Int32))))) (pc' := 73) (hb hy at_72) (own_n0 _) rfl rfl ?_
        refine o_iadd W13 (v := ((1 : Int32) + ((p1 &&& (2147483647 : Int32)) % ((1 : Int32) + ((p2 &&& (2147483647 : Int32)) % (2147483647 : Int32)))))) (pc' := 74) (hb hy at_73) rfl rfl ?_
        refine o_istore W13 (L' := #[.val (.int p0), .val (.int p1), .val (.int p2), .val (.int p3), .val (.int p4), .val (.int ((p0 &&& (2147483647 : Int32)) % (3 : Int32))), .val (.ref gD), .val (.int ((1 : Int32) + ((p2 &&& (2147483647 : Int32)) % (2147483647 : Int32)))), .val (.int ((1 : Int32) + ((p1 &&& (2147483647 : Int32)) % ((1 : Int32) + ((p2 &&& (2147483647 : Int32)) % (2147483647 : Int32)))))), .unset, .unset, .unset, .unset, .unset, .unset, .unset]) (pc' := 76) (hb hy at_74) rfl rfl ?_
        refine o_iloadN W13 (pc' := 77) (hb hy at_76) rfl rfl ?_
        refine o_ldcI W13 (w0 hw) (pc' := 79) (hb hy at_77) rfl ?_
        refine o_iand W13 (v := (p3 &&& (2147483647 : Int32))) (pc' := 80) (hb hy at_79) rfl rfl ?_
        refine o_sipush W13 (v := 1025) (pc' := 83) (hb hy at_80) (by decide) rfl ?_
        refine o_irem W13 (v := ((p3 &&& (2147483647 : Int32)) % (1025 : Int32))) (pc' := 84) (hb hy at_83) (by decide) rfl rfl ?_
        refine o_i2d W13 (v := (FP.i2d ((p3 &&& (2147483647 : Int32)) % (1025 : Int32)))) (pc' := 85) (hb hy at_84) rfl rfl ?_
        refine o_ldcD W13 (w4 hw) (pc' := 88) (hb hy at_85) rfl ?_
        refine o_ddiv W13 (v := (FP.ddiv (FP.i2d ((p3 &&& (2147483647 : Int32)) % (1025 : Int32))) (4652218415073722368 : UInt64))) (pc' := 89) (hb hy at_88) (own_lam _).2 rfl rfl ?_
        refine o_dstore W13 (L' := #[.val (.int p0), .val (.int p1), .val (.int p2), .val (.int p3), .val (.int p4), .val (.int ((p0 &&& (2147483647 : Int32)) % (3 : Int32))), .val (.ref gD), .val (.int ((1 : Int32) + ((p2 &&& (2147483647 : Int32)) % (2147483647 : Int32)))), .val (.int ((1 : Int32) + ((p1 &&& (2147483647 : Int32)) % ((1 : Int32) + ((p2 &&& (2147483647 : Int32)) % (2147483647 : Int32)))))), .val (.double (FP.ddiv (FP.i2d ((p3 &&& (2147483647 : Int32)) % (1025 : Int32))) (4652218415073722368 : UInt64))), .second, .unset, .unset, .unset, .unset, .unset]) (pc' := 91) (hb hy at_89) rfl rfl ?_
        refine o_aload W13 (pc' := 93) (hb hy at_91) rfl rfl rfl ?_
        refine o_iload W13 (pc' := 95) (hb hy at_93) rfl rfl ?_
        refine o_iload W13 (pc' := 97) (hb hy at_95) rfl rfl ?_
        refine o_dload W13 (pc' := 99) (hb hy at_97) rfl rfl ?_
        by_cases hk15 : ((1 : Int32) + ((p1 &&& (2147483647 : Int32)) % ((1 : Int32) + ((p2 &&& (2147483647 : Int32)) % (2147483647 : Int32))))) = ((1 : Int32) + ((p2 &&& (2147483647 : Int32)) % (2147483647 : Int32)))
        · refine o_virtual W13 (y := (⟨"com/example/sessn/sessn/session/Weights", "weight", "(IID)D"⟩ : MethodName)) (z := (⟨"com/example/sessn/sessn/session/Weights", "weight", "(IID)D"⟩ : MethodName)) (w5 hw) (w6 hw) (o_nf W13 rfl (w8 hw)) (w8 hw) (w7 hw) (by decide) (XgD.ext W13.ox) (argsL := [(.int ((1 : Int32) + ((p1 &&& (2147483647 : Int32)) % ((1 : Int32) + ((p2 &&& (2147483647 : Int32)) % (2147483647 : Int32)))))), (.int ((1 : Int32) + ((p2 &&& (2147483647 : Int32)) % (2147483647 : Int32)))), (.double (FP.ddiv (FP.i2d ((p3 &&& (2147483647 : Int32)) % (1025 : Int32))) (4652218415073722368 : UInt64)))]) (CtrN.back (Wd := 0) W13 (rm6 l Z a0 hw gU gD ((1 : Int32) + ((p1 &&& (2147483647 : Int32)) % ((1 : Int32) + ((p2 &&& (2147483647 : Int32)) % (2147483647 : Int32))))) ((1 : Int32) + ((p2 &&& (2147483647 : Int32)) % (2147483647 : Int32))) (FP.ddiv (FP.i2d ((p3 &&& (2147483647 : Int32)) % (1025 : Int32))) (4652218415073722368 : UInt64)) h0 W13.old SgU negDgU hk15 (own_sub _).2) (w9 hw) (w2 hw) (by decide) (by decide)) (by rw [hml]; rfl) (lenOf pd0 rfl) (S := []) rfl (by exact Nat.le_of_eq rfl) (pc' := 102) (hb hy at_99) rfl (cells' := 0) (slots' := 0) rfl rfl (by decide) (by decide) (wy := []) (fun _ _ _ q => ⟨q.1, q.2.1⟩) all0 (fun _ _ => trivial) ?_
          intro v16 T16 h16 lo16 W16 K16 q16
          obtain rfl := q16.2.2
          show Gl _ _ _ _ _ _ _ _ [(.double (FP.dsub FP.dconst1 (FP.ddiv (FP.i2d ((p3 &&& (2147483647 : Int32)) % (1025 : Int32))) (4652218415073722368 : UInt64))))]
          refine o_dstore W16 (L' := #[.val (.int p0), .val (.int p1), .val (.int p2), .val (.int p3), .val (.int p4), .val (.int ((p0 &&& (2147483647 : Int32)) % (3 : Int32))), .val (.ref gD), .val (.int ((1 : Int32) + ((p2 &&& (2147483647 : Int32)) % (2147483647 : Int32)))), .val (.int ((1 : Int32) + ((p1 &&& (2147483647 : Int32)) % ((1 : Int32) + ((p2 &&& (2147483647 : Int32)) % (2147483647 : Int32)))))), .val (.double (FP.ddiv (FP.i2d ((p3 &&& (2147483647 : Int32)) % (1025 : Int32))) (4652218415073722368 : UInt64))), .second, .val (.double (FP.dsub FP.dconst1 (FP.ddiv (FP.i2d ((p3 &&& (2147483647 : Int32)) % (1025 : Int32))) (4652218415073722368 : UInt64)))), .second, .unset, .unset, .unset]) (pc' := 104) (hb hy at_102) rfl rfl ?_
          refine o_iload W16 (pc' := 106) (hb hy at_104) rfl rfl ?_
          refine o_ifY W16 (pc' := 115) (hb hy at_106) (XT.i0_ne_t hs0) (by decide) rfl ?_
          refine o_iload W16 (pc' := 117) (hb hy at_115) rfl rfl ?_
          refine o_iload W16 (pc' := 119) (hb hy at_117) rfl rfl ?_
          refine o_icmpN W16 (pc' := 122) (hb hy at_119) (XT.ii_ne_f hk15) rfl ?_
          refine o_dconst1 W16 (pc' := 123) (hb hy at_122) rfl rfl ?_
          refine o_dload W16 (pc' := 125) (hb hy at_123) rfl rfl ?_
          refine o_dsub W16 (v := (FP.dsub FP.dconst1 (FP.ddiv (FP.i2d ((p3 &&& (2147483647 : Int32)) % (1025 : Int32))) (4652218415073722368 : UInt64)))) (pc' := 126) (hb hy at_125) (own_sub _).2 rfl rfl ?_
          refine o_dstore W16 (L' := #[.val (.int p0), .val (.int p1), .val (.int p2), .val (.int p3), .val (.int p4), .val (.int ((p0 &&& (2147483647 : Int32)) % (3 : Int32))), .val (.ref gD), .val (.int ((1 : Int32) + ((p2 &&& (2147483647 : Int32)) % (2147483647 : Int32)))), .val (.int ((1 : Int32) + ((p1 &&& (2147483647 : Int32)) % ((1 : Int32) + ((p2 &&& (2147483647 : Int32)) % (2147483647 : Int32)))))), .val (.double (FP.ddiv (FP.i2d ((p3 &&& (2147483647 : Int32)) % (1025 : Int32))) (4652218415073722368 : UInt64))), .second, .val (.double (FP.dsub FP.dconst1 (FP.ddiv (FP.i2d ((p3 &&& (2147483647 : Int32)) % (1025 : Int32))) (4652218415073722368 : UInt64)))), .second, .val (.double (FP.dsub FP.dconst1 (FP.ddiv (FP.i2d ((p3 &&& (2147483647 : Int32)) % (1025 : Int32))) (4652218415073722368 : UInt64)))), .second, .unset]) (pc' := 128) (hb hy at_126) rfl rfl ?_
          refine o_goto W16 (pc' := 159) (hb hy at_128) (by decide) rfl ?_
          refine o_dload W16 (pc' := 161) (hb hy at_159) rfl rfl ?_
          refine o_dload W16 (pc' := 163) (hb hy at_161) rfl rfl ?_
          refine o_dcmp W16 (v := 0) (pc' := 164) (hb hy at_163) (dcmpV_self (own_sub _).2 .l) rfl ?_
          refine o_ifN W16 (pc' := 167) (hb hy at_164) (XT.i0_ne_f (by decide)) rfl ?_
          refine o_iconst W16 (v := 1) (pc' := 168) (hb hy at_167) rfl rfl ?_
          refine o_goto W16 (pc' := 172) (hb hy at_168) (by decide) rfl ?_
          exact o_retN W16 hlk (t := .boolean) hret (by simp) (z' := (1 : Int32)) (by decide) (hb hy at_172) (by decide) (by decide) rfl
        · have hd := own_sub0 hk15
          refine o_virtual W13 (y := (⟨"com/example/sessn/sessn/session/Weights", "weight", "(IID)D"⟩ : MethodName)) (z := (⟨"com/example/sessn/sessn/session/Weights", "weight", "(IID)D"⟩ : MethodName)) (w5 hw) (w6 hw) (o_nf W13 rfl (w8 hw)) (w8 hw) (w7 hw) (by decide) (XgD.ext W13.ox) (argsL := [(.int ((1 : Int32) + ((p1 &&& (2147483647 : Int32)) % ((1 : Int32) + ((p2 &&& (2147483647 : Int32)) % (2147483647 : Int32)))))), (.int ((1 : Int32) + ((p2 &&& (2147483647 : Int32)) % (2147483647 : Int32)))), (.double (FP.ddiv (FP.i2d ((p3 &&& (2147483647 : Int32)) % (1025 : Int32))) (4652218415073722368 : UInt64)))]) (CtrN.back (Wd := 0) W13 (rm7 l Z a0 hw gU gP gD ((1 : Int32) + ((p1 &&& (2147483647 : Int32)) % ((1 : Int32) + ((p2 &&& (2147483647 : Int32)) % (2147483647 : Int32))))) ((1 : Int32) + ((p2 &&& (2147483647 : Int32)) % (2147483647 : Int32))) (FP.ddiv (FP.i2d ((p3 &&& (2147483647 : Int32)) % (1025 : Int32))) (4652218415073722368 : UInt64)) h0 W13.old SgU negDgU hk15 SgP negDgP (own_div _ hd).2) (w9 hw) (w2 hw) (by decide) (by decide)) (by rw [hml]; rfl) (lenOf pd0 rfl) (S := []) rfl (by exact Nat.le_of_eq rfl) (pc' := 102) (hb hy at_99) rfl (cells' := 0) (slots' := 0) rfl rfl (by decide) (by decide) (wy := []) (fun _ _ _ q => ⟨q.1, q.2.1⟩) all0 (fun _ _ => trivial) ?_
          intro v17 T17 h17 lo17 W17 K17 q17
          obtain rfl := q17.2.2
          show Gl _ _ _ _ _ _ _ _ [(.double (FP.ddiv (FP.ddiv (FP.i2d ((p3 &&& (2147483647 : Int32)) % (1025 : Int32))) (4652218415073722368 : UInt64)) (FP.i2d (((1 : Int32) + ((p2 &&& (2147483647 : Int32)) % (2147483647 : Int32))) - ((1 : Int32) + ((p1 &&& (2147483647 : Int32)) % ((1 : Int32) + ((p2 &&& (2147483647 : Int32)) % (2147483647 : Int32)))))))))]
          refine o_dstore W17 (L' := #[.val (.int p0), .val (.int p1), .val (.int p2), .val (.int p3), .val (.int p4), .val (.int ((p0 &&& (2147483647 : Int32)) % (3 : Int32))), .val (.ref gD), .val (.int ((1 : Int32) + ((p2 &&& (2147483647 : Int32)) % (2147483647 : Int32)))), .val (.int ((1 : Int32) + ((p1 &&& (2147483647 : Int32)) % ((1 : Int32) + ((p2 &&& (2147483647 : Int32)) % (2147483647 : Int32)))))), .val (.double (FP.ddiv (FP.i2d ((p3 &&& (2147483647 : Int32)) % (1025 : Int32))) (4652218415073722368 : UInt64))), .second, .val (.double (FP.ddiv (FP.ddiv (FP.i2d ((p3 &&& (2147483647 : Int32)) % (1025 : Int32))) (4652218415073722368 : UInt64)) (FP.i2d (((1 : Int32) + ((p2 &&& (2147483647 : Int32)) % (2147483647 : Int32))) - ((1 : Int32) + ((p1 &&& (2147483647 : Int32)) % ((1 : Int32) + ((p2 &&& (2147483647 : Int32)) % (2147483647 : Int32))))))))), .second, .unset, .unset, .unset]) (pc' := 104) (hb hy at_102) rfl rfl ?_
          refine o_iload W17 (pc' := 106) (hb hy at_104) rfl rfl ?_
          refine o_ifY W17 (pc' := 115) (hb hy at_106) (XT.i0_ne_t hs0) (by decide) rfl ?_
          refine o_iload W17 (pc' := 117) (hb hy at_115) rfl rfl ?_
          refine o_iload W17 (pc' := 119) (hb hy at_117) rfl rfl ?_
          refine o_icmpY W17 (pc' := 131) (hb hy at_119) (XT.ii_ne_t hk15) (by decide) rfl ?_
          refine o_iload W17 (pc' := 133) (hb hy at_131) rfl rfl ?_
          refine o_iconst W17 (v := 1) (pc' := 134) (hb hy at_133) rfl rfl ?_
          refine o_icmpY W17 (pc' := 144) (hb hy at_134) (XT.ii_ne_t hs1) (by decide) rfl ?_
          refine o_iload W17 (pc' := 146) (hb hy at_144) rfl rfl ?_
          refine o_iload W17 (pc' := 148) (hb hy at_146) rfl rfl ?_
          refine o_isub W17 (v := (((1 : Int32) + ((p2 &&& (2147483647 : Int32)) % (2147483647 : Int32))) - ((1 : Int32) + ((p1 &&& (2147483647 : Int32)) % ((1 : Int32) + ((p2 &&& (2147483647 : Int32)) % (2147483647 : Int32))))))) (pc' := 149) (hb hy at_148) rfl rfl ?_
          refine o_istore W17 (L' := #[.val (.int p0), .val (.int p1), .val (.int p2), .val (.int p3), .val (.int p4), .val (.int ((p0 &&& (2147483647 : Int32)) % (3 : Int32))), .val (.ref gD), .val (.int ((1 : Int32) + ((p2 &&& (2147483647 : Int32)) % (2147483647 : Int32)))), .val (.int ((1 : Int32) + ((p1 &&& (2147483647 : Int32)) % ((1 : Int32) + ((p2 &&& (2147483647 : Int32)) % (2147483647 : Int32)))))), .val (.double (FP.ddiv (FP.i2d ((p3 &&& (2147483647 : Int32)) % (1025 : Int32))) (4652218415073722368 : UInt64))), .second, .val (.double (FP.ddiv (FP.ddiv (FP.i2d ((p3 &&& (2147483647 : Int32)) % (1025 : Int32))) (4652218415073722368 : UInt64)) (FP.i2d (((1 : Int32) + ((p2 &&& (2147483647 : Int32)) % (2147483647 : Int32))) - ((1 : Int32) + ((p1 &&& (2147483647 : Int32)) % ((1 : Int32) + ((p2 &&& (2147483647 : Int32)) % (2147483647 : Int32))))))))), .second, .unset, .unset, .val (.int (((1 : Int32) + ((p2 &&& (2147483647 : Int32)) % (2147483647 : Int32))) - ((1 : Int32) + ((p1 &&& (2147483647 : Int32)) % ((1 : Int32) + ((p2 &&& (2147483647 : Int32)) % (2147483647 : Int32)))))))]) (pc' := 151) (hb hy at_149) rfl rfl ?_
          refine o_dload W17 (pc' := 153) (hb hy at_151) rfl rfl ?_
          refine o_iload W17 (pc' := 155) (hb hy at_153) rfl rfl ?_
          refine o_i2d W17 (v := (FP.i2d (((1 : Int32) + ((p2 &&& (2147483647 : Int32)) % (2147483647 : Int32))) - ((1 : Int32) + ((p1 &&& (2147483647 : Int32)) % ((1 : Int32) + ((p2 &&& (2147483647 : Int32)) % (2147483647 : Int32)))))))) (pc' := 156) (hb hy at_155) rfl rfl ?_
          refine o_ddiv W17 (v := (FP.ddiv (FP.ddiv (FP.i2d ((p3 &&& (2147483647 : Int32)) % (1025 : Int32))) (4652218415073722368 : UInt64)) (FP.i2d (((1 : Int32) + ((p2 &&& (2147483647 : Int32)) % (2147483647 : Int32))) - ((1 : Int32) + ((p1 &&& (2147483647 : Int32)) % ((1 : Int32) + ((p2 &&& (2147483647 : Int32)) % (2147483647 : Int32))))))))) (pc' := 157) (hb hy at_156) (own_div _ hd).2 rfl rfl ?_
          refine o_dstore W17 (L' := #[.val (.int p0), .val (.int p1), .val (.int p2), .val (.int p3), .val (.int p4), .val (.int ((p0 &&& (2147483647 : Int32)) % (3 : Int32))), .val (.ref gD), .val (.int ((1 : Int32) + ((p2 &&& (2147483647 : Int32)) % (2147483647 : Int32)))), .val (.int ((1 : Int32) + ((p1 &&& (2147483647 : Int32)) % ((1 : Int32) + ((p2 &&& (2147483647 : Int32)) % (2147483647 : Int32)))))), .val (.double (FP.ddiv (FP.i2d ((p3 &&& (2147483647 : Int32)) % (1025 : Int32))) (4652218415073722368 : UInt64))), .second, .val (.double (FP.ddiv (FP.ddiv (FP.i2d ((p3 &&& (2147483647 : Int32)) % (1025 : Int32))) (4652218415073722368 : UInt64)) (FP.i2d (((1 : Int32) + ((p2 &&& (2147483647 : Int32)) % (2147483647 : Int32))) - ((1 : Int32) + ((p1 &&& (2147483647 : Int32)) % ((1 : Int32) + ((p2 &&& (2147483647 : Int32)) % (2147483647 : Int32))))))))), .second, .val (.double (FP.ddiv (FP.ddiv (FP.i2d ((p3 &&& (2147483647 : Int32)) % (1025 : Int32))) (4652218415073722368 : UInt64)) (FP.i2d (((1 : Int32) + ((p2 &&& (2147483647 : Int32)) % (2147483647 : Int32))) - ((1 : Int32) + ((p1 &&& (2147483647 : Int32)) % ((1 : Int32) + ((p2 &&& (2147483647 : Int32)) % (2147483647 : Int32))))))))), .second, .val (.int (((1 : Int32) + ((p2 &&& (2147483647 : Int32)) % (2147483647 : Int32))) - ((1 : Int32) + ((p1 &&& (2147483647 : Int32)) % ((1 : Int32) + ((p2 &&& (2147483647 : Int32)) % (2147483647 : Int32)))))))]) (pc' := 159) (hb hy at_157) rfl rfl ?_
          refine o_dload W17 (pc' := 161) (hb hy at_159) rfl rfl ?_
          refine o_dload W17 (pc' := 163) (hb hy at_161) rfl rfl ?_
          refine o_dcmp W17 (v := 0) (pc' := 164) (hb hy at_163) (dcmpV_self (own_div _ hd).2 .l) rfl ?_
          refine o_ifN W17 (pc' := 167) (hb hy at_164) (XT.i0_ne_f (by decide)) rfl ?_
          refine o_iconst W17 (v := 1) (pc' := 168) (hb hy at_167) rfl rfl ?_
          refine o_goto W17 (pc' := 172) (hb hy at_168) (by decide) rfl ?_
          exact o_retN W17 hlk (t := .boolean) hret (by simp) (z' := (1 : Int32)) (by decide) (hb hy at_172) (by decide) (by decide) rfl
      · refine o_ifN W13 (pc' := 58) (hb hy at_55) (XT.i0_eq_f hf14) rfl ?_
        refine o_iload W13 (pc' := 60) (hb hy at_58) rfl rfl ?_
        refine o_istore W13 (L' := #[.val (.int p0), .val (.int p1), .val (.int p2), .val (.int p3), .val (.int p4), .val (.int ((p0 &&& (2147483647 : Int32)) % (3 : Int32))), .val (.ref gD), .val (.int ((1 : Int32) + ((p2 &&& (2147483647 : Int32)) % (2147483647 : Int32)))), .val (.int ((1 : Int32) + ((p2 &&& (2147483647 : Int32)) % (2147483647 : Int32)))), .unset, .unset, .unset, .unset, .unset, .unset, .unset]) (pc' := 62) (hb hy at_60) rfl rfl ?_
        refine o_goto W13 (pc' := 76) (hb hy at_62) (by decide) rfl ?_
        refine o_iloadN W13 (pc' := 77) (hb hy at_76) rfl rfl ?_
        refine o_ldcI W13 (w0 hw) (pc' := 79) (hb hy at_77) rfl ?_
        refine o_iand W13 (v := (p3 &&& (2147483647 : Int32))) (pc' := 80) (hb hy at_79) rfl rfl ?_
        refine o_sipush W13 (v := 1025) (pc' := 83) (hb hy at_80) (by decide) rfl ?_
        refine o_irem W13 (v := ((p3 &&& (2147483647 : Int32)) % (1025 : Int32))) (pc' := 84) (hb hy at_83) (by decide) rfl rfl ?_
        refine o_i2d W13 (v := (FP.i2d ((p3 &&& (2147483647 : Int32)) % (1025 : Int32)))) (pc' := 85) (hb hy at_84) rfl rfl ?_
        refine o_ldcD W13 (w4 hw) (pc' := 88) (hb hy at_85) rfl ?_
        refine o_ddiv W13 (v := (FP.ddiv (FP.i2d ((p3 &&& (2147483647 : Int32)) % (1025 : Int32))) (4652218415073722368 : UInt64))) (pc' := 89) (hb hy at_88) (own_lam _).2 rfl rfl ?_
        refine o_dstore W13 (L' := #[.val (.int p0), .val (.int p1), .val (.int p2), .val (.int p3), .val (.int p4), .val (.int ((p0 &&& (2147483647 : Int32)) % (3 : Int32))), .val (.ref gD), .val (.int ((1 : Int32) + ((p2 &&& (2147483647 : Int32)) % (2147483647 : Int32)))), .val (.int ((1 : Int32) + ((p2 &&& (2147483647 : Int32)) % (2147483647 : Int32)))), .val (.double (FP.ddiv (FP.i2d ((p3 &&& (2147483647 : Int32)) % (1025 : Int32))) (4652218415073722368 : UInt64))), .second, .unset, .unset, .unset, .unset, .unset]) (pc' := 91) (hb hy at_89) rfl rfl ?_
        refine o_aload W13 (pc' := 93) (hb hy at_91) rfl rfl rfl ?_
        refine o_iload W13 (pc' := 95) (hb hy at_93) rfl rfl ?_
        refine o_iload W13 (pc' := 97) (hb hy at_95) rfl rfl ?_
        refine o_dload W13 (pc' := 99) (hb hy at_97) rfl rfl ?_
        refine o_virtual W13 (y := (⟨"com/example/sessn/sessn/session/Weights", "weight", "(IID)D"⟩ : MethodName)) (z := (⟨"com/example/sessn/sessn/session/Weights", "weight", "(IID)D"⟩ : MethodName)) (w5 hw) (w6 hw) (o_nf W13 rfl (w8 hw)) (w8 hw) (w7 hw) (by decide) (XgD.ext W13.ox) (argsL := [(.int ((1 : Int32) + ((p2 &&& (2147483647 : Int32)) % (2147483647 : Int32)))), (.int ((1 : Int32) + ((p2 &&& (2147483647 : Int32)) % (2147483647 : Int32)))), (.double (FP.ddiv (FP.i2d ((p3 &&& (2147483647 : Int32)) % (1025 : Int32))) (4652218415073722368 : UInt64)))]) (CtrN.back (Wd := 0) W13 (rm8 l Z a0 hw gU gD ((1 : Int32) + ((p2 &&& (2147483647 : Int32)) % (2147483647 : Int32))) (FP.ddiv (FP.i2d ((p3 &&& (2147483647 : Int32)) % (1025 : Int32))) (4652218415073722368 : UInt64)) h0 W13.old SgU negDgU (own_sub _).2) (w9 hw) (w2 hw) (by decide) (by decide)) (by rw [hml]; rfl) (lenOf pd0 rfl) (S := []) rfl (by exact Nat.le_of_eq rfl) (pc' := 102) (hb hy at_99) rfl (cells' := 0) (slots' := 0) rfl rfl (by decide) (by decide) (wy := []) (fun _ _ _ q => ⟨q.1, q.2.1⟩) all0 (fun _ _ => trivial) ?_
        intro v18 T18 h18 lo18 W18 K18 q18
        obtain rfl := q18.2.2
        show Gl _ _ _ _ _ _ _ _ [(.double (FP.dsub FP.dconst1 (FP.ddiv (FP.i2d ((p3 &&& (2147483647 : Int32)) % (1025 : Int32))) (4652218415073722368 : UInt64))))]
        refine o_dstore W18 (L' := #[.val (.int p0), .val (.int p1), .val (.int p2), .val (.int p3), .val (.int p4), .val (.int ((p0 &&& (2147483647 : Int32)) % (3 : Int32))), .val (.ref gD), .val (.int ((1 : Int32) + ((p2 &&& (2147483647 : Int32)) % (2147483647 : Int32)))), .val (.int ((1 : Int32) + ((p2 &&& (2147483647 : Int32)) % (2147483647 : Int32)))), .val (.double (FP.ddiv (FP.i2d ((p3 &&& (2147483647 : Int32)) % (1025 : Int32))) (4652218415073722368 : UInt64))), .second, .val (.double (FP.dsub FP.dconst1 (FP.ddiv (FP.i2d ((p3 &&& (2147483647 : Int32)) % (1025 : Int32))) (4652218415073722368 : UInt64)))), .second, .unset, .unset, .unset]) (pc' := 104) (hb hy at_102) rfl rfl ?_
        refine o_iload W18 (pc' := 106) (hb hy at_104) rfl rfl ?_
        refine o_ifY W18 (pc' := 115) (hb hy at_106) (XT.i0_ne_t hs0) (by decide) rfl ?_
        refine o_iload W18 (pc' := 117) (hb hy at_115) rfl rfl ?_
        refine o_iload W18 (pc' := 119) (hb hy at_117) rfl rfl ?_
        refine o_icmpN W18 (pc' := 122) (hb hy at_119) (XT.ii_ne_f rfl) rfl ?_
        refine o_dconst1 W18 (pc' := 123) (hb hy at_122) rfl rfl ?_
        refine o_dload W18 (pc' := 125) (hb hy at_123) rfl rfl ?_
        refine o_dsub W18 (v := (FP.dsub FP.dconst1 (FP.ddiv (FP.i2d ((p3 &&& (2147483647 : Int32)) % (1025 : Int32))) (4652218415073722368 : UInt64)))) (pc' := 126) (hb hy at_125) (own_sub _).2 rfl rfl ?_
        refine o_dstore W18 (L' := #[.val (.int p0), .val (.int p1), .val (.int p2), .val (.int p3), .val (.int p4), .val (.int ((p0 &&& (2147483647 : Int32)) % (3 : Int32))), .val (.ref gD), .val (.int ((1 : Int32) + ((p2 &&& (2147483647 : Int32)) % (2147483647 : Int32)))), .val (.int ((1 : Int32) + ((p2 &&& (2147483647 : Int32)) % (2147483647 : Int32)))), .val (.double (FP.ddiv (FP.i2d ((p3 &&& (2147483647 : Int32)) % (1025 : Int32))) (4652218415073722368 : UInt64))), .second, .val (.double (FP.dsub FP.dconst1 (FP.ddiv (FP.i2d ((p3 &&& (2147483647 : Int32)) % (1025 : Int32))) (4652218415073722368 : UInt64)))), .second, .val (.double (FP.dsub FP.dconst1 (FP.ddiv (FP.i2d ((p3 &&& (2147483647 : Int32)) % (1025 : Int32))) (4652218415073722368 : UInt64)))), .second, .unset]) (pc' := 128) (hb hy at_126) rfl rfl ?_
        refine o_goto W18 (pc' := 159) (hb hy at_128) (by decide) rfl ?_
        refine o_dload W18 (pc' := 161) (hb hy at_159) rfl rfl ?_
        refine o_dload W18 (pc' := 163) (hb hy at_161) rfl rfl ?_
        refine o_dcmp W18 (v := 0) (pc' := 164) (hb hy at_163) (dcmpV_self (own_sub _).2 .l) rfl ?_
        refine o_ifN W18 (pc' := 167) (hb hy at_164) (XT.i0_ne_f (by decide)) rfl ?_
        refine o_iconst W18 (v := 1) (pc' := 168) (hb hy at_167) rfl rfl ?_
        refine o_goto W18 (pc' := 172) (hb hy at_168) (by decide) rfl ?_
        exact o_retN W18 hlk (t := .boolean) hret (by simp) (z' := (1 : Int32)) (by decide) (hb hy at_172) (by decide) (by decide) rfl
theorem comes_1 {Post : Tables → Env → Array Value → State → Outcome → State → Prop} (hpost : ∀ tb e args s v u, (limb_1_1.after args s (.returned v) u = true ∧ limb_1_2.after args s (.returned v) u = true ∧ True) → FrameEnd s (.returned v) u (Jvm.fieldLocs frame_1_writes args s ++ Jvm.arrayLocs frame_1_arrays args s ++ Jvm.staticLocs frame_1_statics s) 0 0 → Post tb e args s (.returned v) u) :
    ArmFor flags0 classFile x code maxLocals ret World_1 tables_1 room_1 Calls_1 rest_1 Pre_1 Post := by
  intro l hfl _ _ p e ha hc hk s m args below hf hA hF happ hP
  obtain ⟨hcalls, hrest, hpre⟩ := hP
  obtain ⟨-, -, -, hnamed, -, -, -, hat⟩ := (Spec.applies_iff hf).mp happ
  obtain ⟨hg, hn⟩ := and_e (Cond.before_iff.mp (show (Jvm.Cond.and given_1 narrow_1).before args s = true from hpre))
  obtain ⟨g1, g2⟩ := and_e hg
  obtain ⟨g3, g4⟩ := and_e g2
  obtain ⟨g5, g6⟩ := and_e g4
  obtain ⟨g7, g8⟩ := and_e g6
  obtain ⟨g9, g10⟩ := and_e g8
  obtain ⟨w0, w1, w2, w3, w4, rfl⟩ : ∃ w0 w1 w2 w3 w4 : Value, args = #[w0, w1, w2, w3, w4] := by
    have hs : args.size = 5 := by simpa [Cond.value, given_1] using g1
    obtain ⟨L⟩ := args
    match L, hs with
    | [w0, w1, w2, w3, w4], _ => exact ⟨w0, w1, w2, w3, w4, rfl⟩
  obtain ⟨i0, ei0⟩ := is_v g3
  obtain rfl : w0 = (.int i0) := Option.some.inj ei0
  obtain ⟨i1, ei1⟩ := is_v g5
  obtain rfl : w1 = (.int i1) := Option.some.inj ei1
  obtain ⟨i2, ei2⟩ := is_v g7
  obtain rfl : w2 = (.int i2) := Option.some.inj ei2
  obtain ⟨i3, ei3⟩ := is_v g9
  obtain rfl : w3 = (.int i3) := Option.some.inj ei3
  obtain ⟨i4, ei4⟩ := is_v g10
  obtain rfl : w4 = (.int i4) := Option.some.inj ei4
  have hw := fun d (hd : d ∈ tables_1) => atoms_spec (ws := Jvm.Cond.code x code maxLocals ret :: tables_1) hat d (List.mem_cons_of_mem _ hd)
  have hfit : Fit s := fun {y c} hc i hi => by
    obtain ⟨ha, rfl⟩ := Array.getElem?_eq_some_iff.mp hc
    have q := List.all_eq_true.mp ((Array.all_eq_true_iff_forall_mem.mp hF) _ (Array.getElem_mem ha)) i (List.mem_range.mpr hi)
    simpa [Array.getElem?_eq_getElem hi] using q
  obtain ⟨n1, hn⟩ := and_e hn
  obtain ⟨n2, hn⟩ := and_e hn
  obtain ⟨n3, hn⟩ := and_e hn
  obtain ⟨n4, hn⟩ := and_e hn
  obtain ⟨n5, n6⟩ := and_e hn
  obtain ⟨gU, vU, SgU, XgU⟩ := own_stE n1 (Or.inr ⟨(w2 hw), (w3 hw)⟩)
  obtain ⟨gD, vD, SgD, XgD⟩ := own_stE n2 (Or.inr ⟨(w2 hw), (w12 hw)⟩)
  obtain ⟨gP, vP, SgP, XgP⟩ := own_stE n5 (Or.inr ⟨(w2 hw), (w14 hw)⟩)
  have oD := own_fI vD n3
  have oU := own_fI vU n4
  have oP := own_fI vP n6
  have negPgU : gP ≠ gU := oP.ne oU (by simp)
  have negDgU : gD ≠ gU := oD.ne oU (by simp)
  have negDgP : gD ≠ gP := oD.ne oP (by simp)
  obtain ⟨n, o, h1, h2, h3, _, L, rfl, ⟨N, -, rfl⟩, hq⟩ := rm_law l s _ hw gU gP gD i0 i1 i2 i3 i4 s.heap (Old.start s) SgU XgU SgP negPgU XgP SgD negDgU XgD negDgP p e ha hc hk s m _ below hf ((Spec.applies_iff_loose hf).mp happ).1 ⟨rfl, State.Warmed39.refl s, rfl⟩ trivial
  refine ⟨n, _, h1, h2, h3, hpost _ _ _ _ _ _ ⟨Cond.after_iff.mpr rfl, Cond.after_iff.mpr (eq_i res_at (Term.int_eval (1)) rfl), trivial⟩ ⟨hq.1, hq.2.1, (hq.2.2.sift fun y hy => Or.inr (N y hy)).mono (by decide) (by decide)⟩⟩
theorem main_1_1 : Claimed_1_1 := comes_1 fun _ _ _ _ _ _ h hF => ⟨h.1, hF⟩
theorem main_1_2 : Claimed_1_2 := comes_1 fun _ _ _ _ _ _ h hF => ⟨h.2.1, hF⟩
end Jvm.Pilot.@@N@@
namespace Jvm.Pilot.@@N@@
open Jvm Jvm.ClassFile Sem Op Lib Jvm.Free Jvm.Stand Jvm.Pilot.@@N@@.Jvm.D
/-! MADE BY PROGRAM (witnessworld.py) out of the Statement's table words and the real class files: 12 classes; the members and pool entries that the words name. The judged class is class 1, her method 1. -/
namespace start1
open Jvm.ClassFile
def u (s : String) : CpInfo := .utf8 (stringToUtf16 s)
/-- a pool by its gaps: so many unusable entries, then the entry; so many at the end -/
def gap : Nat → List CpInfo → List CpInfo
  | 0, r => r
  | n + 1, r => .unusable :: gap n r
def poolList (es : List (Nat × CpInfo)) (last : Nat) : List CpInfo := es.foldr (fun e r => gap e.1 (e.2 :: r)) (gap last [])
def pool (es : List (Nat × CpInfo)) (last : Nat) : Array CpInfo := ⟨poolList es last⟩
def fileOf (pool : Array CpInfo) (this : Nat) (attrs : Array Attribute := #[]) (ms : Array MethodInfo := #[]) (fl : Nat := 33) (sup : Nat := 0) (ifs : Array Nat := #[]) (fds : Array FieldInfo := #[]) : ClassFile where
  minorVersion := 0
  majorVersion := 65
  constantPool := pool
  accessFlags := fl
  thisClass := this
  superClass := sup
  interfaces := ifs
  fields := fds
  methods := ms
  attributes := attrs
def plain (name : String) (sup : Option ClassId) : Class where
  name := name
  kind := .ordinary
  loader := none
  accessFlags := 33
  super := sup
  interfaces := #[]
  cf := none
  fields := #[]
  methods := #[]
  instanceTypes := #[]
  staticTypes := #[]
  resolved := #[]
  callSites := []
  init := .initialized
  statics := none
  mirror := none

def pool0 : Array CpInfo := pool [(5, u "<init>"), (0, u "()V"), (1, .class_ 10), (1, u "java/lang/Object")] 113

def k0m0 : Method := { name := "<init>", desc := "()V", sig := { parameters := [], returnType := none }, accessFlags := 1, code := none }
/-- java/lang/Object -/
def k0 : Class := { plain "java/lang/Object" none with
  accessFlags := 33
  interfaces := #[]
  cf := some (fileOf pool0 8 #[] #[{ accessFlags := 1, nameIndex := 5, descriptorIndex := 6, attributes := #[] }] 33 0 #[] #[])
  fields := #[]
  methods := #[k0m0]
  instanceTypes := #[]
  staticTypes := #[]
  resolved := Array.replicate 124 none
  statics := none }

def pool1 : Array CpInfo := pool [(2, .class_ 4), (1, u "java/lang/Object"), (0, u "<init>"), (0, u "()V"), (0, .integer 2147483647), (0, .fieldref 9 10), (0, .class_ 11), (0, .nameAndType 12 13), (0, u "com/example/sessn/sessn/session/Weights"), (0, u "UNIFORM"), (0, u "Lcom/example/sessn/sessn/session/Weights;"), (0, .fieldref 9 15), (0, .nameAndType 16 13), (0, u "PREV_CURRENT"), (0, .fieldref 9 18), (0, .nameAndType 19 13), (0, u "DISTANCE"), (0, .double 4652218415073722368), (1, .methodref 9 23), (0, .nameAndType 24 25), (0, u "weight"), (0, u "(IID)D"), (0, .class_ 27), (0, u "com/example/sessn/sessn/session/WeightsWeightPinLaw"), (2, u "law"), (0, u "(IIIII)Z")] 3

def k1m0 : Method := { name := "<init>", desc := "()V", sig := { parameters := [], returnType := none }, accessFlags := 1, code := none }
def k1c1 : Code := { maxStack := 5, maxLocals := 16, code := code, exceptionTable := #[], attributes := #[] }
def k1m1 : Method := { name := "law", desc := "(IIIII)Z", sig := { parameters := [.int, .int, .int, .int, .int], returnType := some .boolean }, accessFlags := 9, code := some k1c1 }
/-- com/example/sessn/sessn/session/WeightsWeightPinLaw -/
def k1 : Class := { plain "com/example/sessn/sessn/session/WeightsWeightPinLaw" (some 0) with
  accessFlags := 49
  interfaces := #[]
  cf := some (fileOf pool1 26 #[] #[{ accessFlags := 1, nameIndex := 5, descriptorIndex := 6, attributes := #[] }, { accessFlags := 9, nameIndex := 30, descriptorIndex := 31, attributes := #[] }] 49 2 #[] #[])
  fields := #[]
  methods := #[k1m0, k1m1]
  instanceTypes := #[]
  staticTypes := #[]
  resolved := Array.replicate 35 none
  statics := none }

def pool2 : Array CpInfo := pool [(1, .class_ 2), (0, u "java/lang/constant/Constable"), (0, .class_ 4), (0, u "java/lang/Object")] 6

/-- java/lang/constant/Constable -/
def k2 : Class := { plain "java/lang/constant/Constable" (some 0) with
  accessFlags := 1537
  interfaces := #[]
  cf := some (fileOf pool2 1 #[] #[] 1537 3 #[] #[])
  fields := #[]
  methods := #[]
  instanceTypes := #[]
  staticTypes := #[]
  resolved := Array.replicate 11 none
  statics := none }

def pool3 : Array CpInfo := pool [(1, .class_ 2), (0, u "java/lang/Comparable"), (0, .class_ 4), (0, u "java/lang/Object")] 7

/-- java/lang/Comparable -/
def k3 : Class := { plain "java/lang/Comparable" (some 0) with
  accessFlags := 1537
  interfaces := #[]
  cf := some (fileOf pool3 1 #[] #[] 1537 3 #[] #[])
  fields := #[]
  methods := #[]
  instanceTypes := #[]
  staticTypes := #[]
  resolved := Array.replicate 12 none
  statics := none }

def pool4 : Array CpInfo := pool [(1, .class_ 2), (0, u "java/io/Serializable"), (0, .class_ 4), (0, u "java/lang/Object")] 2

/-- java/io/Serializable -/
def k4 : Class := { plain "java/io/Serializable" (some 0) with
  accessFlags := 1537
  interfaces := #[]
  cf := some (fileOf pool4 1 #[] #[] 1537 3 #[] #[])
  fields := #[]
  methods := #[]
  instanceTypes := #[]
  staticTypes := #[]
  resolved := Array.replicate 7 none
  statics := none }

def pool5 : Array CpInfo := pool [(2, .class_ 4), (1, u "java/lang/Enum"), (0, u "name"), (0, u "Ljava/lang/String;"), (2, u "ordinal"), (0, u "I"), (1, .class_ 14), (1, u "java/lang/Object"), (4, u "hash"), (86, .class_ 108), (1, u "java/lang/Enum$EnumDesc"), (2, .class_ 112), (0, u "java/lang/constant/Constable"), (0, .class_ 114), (0, u "java/lang/Comparable"), (0, .class_ 116), (0, u "java/io/Serializable")] 87

/-- java/lang/Enum -/
def k5 : Class := { plain "java/lang/Enum" (some 0) with
  accessFlags := 1057
  interfaces := #[2, 3, 4]
  cf := some (fileOf pool5 2 #[.nestMembers #[106]] #[] 1057 12 #[111, 113, 115] #[{ accessFlags := 18, nameIndex := 5, descriptorIndex := 6, attributes := #[] }, { accessFlags := 18, nameIndex := 9, descriptorIndex := 10, attributes := #[] }, { accessFlags := 2, nameIndex := 19, descriptorIndex := 10, attributes := #[] }])
  fields := #[{ name := "name", type := (.object "java/lang/String"), accessFlags := 18, slot := 0, constantValue := 0 }, { name := "ordinal", type := .int, accessFlags := 18, slot := 1, constantValue := 0 }, { name := "hash", type := .int, accessFlags := 2, slot := 2, constantValue := 0 }]
  methods := #[]
  instanceTypes := #[(.object "java/lang/String"), .int, .int]
  staticTypes := #[]
  resolved := Array.replicate 204 none
  statics := none }

def pool6 : Array CpInfo := pool [(1, .class_ 2), (0, u "com/example/sessn/sessn/session/Weights"), (0, .fieldref 1 4), (0, .nameAndType 5 6), (0, u "UNIFORM"), (0, u "Lcom/example/sessn/sessn/session/Weights;"), (0, .fieldref 1 8), (0, .nameAndType 9 6), (0, u "PREV_CURRENT"), (2, u "DISTANCE"), (2, u "$VALUES"), (0, u "[Lcom/example/sessn/sessn/session/Weights;"), (6, .class_ 25), (1, u "java/lang/Enum"), (8, u "label"), (0, u "Ljava/lang/String;"), (34, u "weight"), (0, u "(IID)D")] 5

def k6c0 : Code := { maxStack := 4, maxLocals := 7, code := prog_28_method_6_code, exceptionTable := #[], attributes := #[] }
def k6m0 : Method := { name := "weight", desc := "(IID)D", sig := { parameters := [.int, .int, .double], returnType := some .double }, accessFlags := 0, code := some k6c0 }
/-- com/example/sessn/sessn/session/Weights -/
def k6 : Class := { plain "com/example/sessn/sessn/session/Weights" (some 5) with
  accessFlags := 16433
  interfaces := #[]
  cf := some (fileOf pool6 1 #[] #[{ accessFlags := 0, nameIndex := 70, descriptorIndex := 71, attributes := #[] }] 16433 23 #[] #[{ accessFlags := 16409, nameIndex := 5, descriptorIndex := 6, attributes := #[] }, { accessFlags := 16409, nameIndex := 9, descriptorIndex := 6, attributes := #[] }, { accessFlags := 16409, nameIndex := 12, descriptorIndex := 6, attributes := #[] }, { accessFlags := 18, nameIndex := 34, descriptorIndex := 35, attributes := #[] }, { accessFlags := 4122, nameIndex := 15, descriptorIndex := 16, attributes := #[] }])
  fields := #[{ name := "UNIFORM", type := (.object "com/example/sessn/sessn/session/Weights"), accessFlags := 16409, slot := 0, constantValue := 0 }, { name := "PREV_CURRENT", type := (.object "com/example/sessn/sessn/session/Weights"), accessFlags := 16409, slot := 1, constantValue := 0 }, { name := "DISTANCE", type := (.object "com/example/sessn/sessn/session/Weights"), accessFlags := 16409, slot := 2, constantValue := 0 }, { name := "label", type := (.object "java/lang/String"), accessFlags := 18, slot := 3, constantValue := 0 }, { name := "$VALUES", type := (.array (.object "com/example/sessn/sessn/session/Weights")), accessFlags := 4122, slot := 3, constantValue := 0 }]
  methods := #[k6m0]
  instanceTypes := #[(.object "java/lang/String"), .int, .int, (.object "java/lang/String")]
  staticTypes := #[(.object "com/example/sessn/sessn/session/Weights"), (.object "com/example/sessn/sessn/session/Weights"), (.object "com/example/sessn/sessn/session/Weights"), (.array (.object "com/example/sessn/sessn/session/Weights"))]
  resolved := Array.replicate 77 none
  statics := some 0 }

def pool7 : Array CpInfo := pool [(1, u "java/lang/Cloneable"), (0, .class_ 1), (0, u "java/lang/Object"), (0, .class_ 3)] 3

/-- java/lang/Cloneable -/
def k7 : Class := { plain "java/lang/Cloneable" (some 0) with
  accessFlags := 1537
  interfaces := #[]
  cf := some (fileOf pool7 2 #[] #[] 1537 4 #[] #[])
  fields := #[]
  methods := #[]
  instanceTypes := #[]
  staticTypes := #[]
  resolved := Array.replicate 8 none
  statics := none }

/-- the primitive byte -/
def k8 : Class := { plain "byte" none with kind := .primitive 'B', accessFlags := 0x411 }
/-- [B -/
def k9 : Class := { plain "[B" (some 0) with kind := .array 8 .byte, interfaces := #[7, 4], accessFlags := 1041 }

/-- the primitive int -/
def k10 : Class := { plain "int" none with kind := .primitive 'I', accessFlags := 0x411 }
/-- [I -/
def k11 : Class := { plain "[I" (some 0) with kind := .array 10 .int, interfaces := #[7, 4], accessFlags := 1041 }

def heap : Heap := #[{ cls := 6, slots := #[.ref 1, .ref 2, .ref 3, .null], vm := .statics 6 },
  { cls := 6, slots := #[.null, .int 0, .int 0, .null], vm := .none },
  { cls := 6, slots := #[.null, .int 1, .int 0, .null], vm := .none },
  { cls := 6, slots := #[.null, .int 2, .int 0, .null], vm := .none }]
def classes : Array Class := #[k0, k1, k2, k3, k4, k5, k6, k7, k8, k9, k10, k11]
def interned : List (Array UInt16 × Addr) := []
def slotsUsed : Nat := 16
def theMethod : MethodId := ⟨1, 1⟩
def args0 : Array Value := #[.int 5, .int 6, .int 7, .int 8, .int 9]
def aboutOver (below : List Frame) : State where
  vm := { classes := classes, interned := interned.toArray }
  heap := heap
  slotsUsed := slotsUsed
  threads := #[{ frames := .invoking theMethod args0 :: below }]
def below0 : List Frame := [.native { method := ⟨0, 0⟩, args := #[] }]
def about1 : State := aboutOver below0
def p0 : Program := .bare "" "" ""
def e0 : Env := launch0.env 0 0 0
theorem w_frames : about1.frames = Frame.invoking theMethod args0 :: below0 := rfl
set_option maxRecDepth 65536 in
theorem w_args : argsFit about1.vm theMethod args0 = true := by decide +kernel
set_option maxRecDepth 65536 in
theorem w_heap : heapFits about1 = true := by decide +kernel
set_option maxRecDepth 65536 in
theorem w_runnable : about1.curStatus? = some .runnable := by decide +kernel
set_option maxRecDepth 65536 in
theorem w_alone : about1.alone = true := by decide +kernel
set_option maxRecDepth 65536 in
theorem w_named : about1.methodNamed? x = some theMethod := by decide +kernel
set_option maxRecDepth 65536 in
theorem w_hears : about1.hears theMethod below0 = true := by decide +kernel
set_option maxRecDepth 65536 in
theorem w_ripe : about1.ripe theMethod args0 below0 = true := by decide +kernel
theorem w_running : about1.status = .running := rfl
set_option maxRecDepth 65536 in
theorem w_room : about1.hasRoom e0.platform room_1 = true :=
  launch0.hasRoom_least _ room_1 (by decide +kernel) (by decide +kernel) (by decide +kernel) (by decide +kernel) (by decide +kernel) (by decide +kernel)
theorem allAtoms_all (ts : List Jvm.Cond) (a : Array Jvm.Value) (st : Jvm.State) : (allAtoms ts).before a st = ts.all (fun c => c.before a st) := by
  induction ts with
  | nil => rfl
  | cons c t ih =>
    show (Jvm.Cond.and c (allAtoms t)).before a st = _
    rw [Jvm.Cond.before_and, ih, List.all_cons]
def words1 : List Jvm.Cond := Jvm.Cond.code x code maxLocals ret :: tables_1
/-- a 'code' word, met by the world's own term for the bytes: nothing is compared byte by byte -/
theorem code_word {y : MethodName} {bytes : ByteArray} {mx : Nat} {rt : Option FieldType} {a : Array Value} {s : State} {m : MethodId} {meth : Method} {c : Code} (h1 : s.methodNamed? y = some m) (h2 : s.vm.method? m = some meth) (h3 : meth.code = some c) (h4 : c.code = bytes)
    (h5 : (c.maxLocals == mx && c.exceptionTable.isEmpty && decide (c.maxStack ≤ mostOperands) && decide (meth.sig.returnType = rt) && !meth.locks && decide (parseMethodDescriptor y.desc = some meth.sig)) = true) : (Jvm.Cond.code y bytes mx rt).before a s = true := by
  simp only [Bool.and_eq_true, beq_iff_eq, Bool.not_eq_true', decide_eq_true_eq] at h5
  obtain ⟨⟨⟨⟨⟨g1, g2⟩, g3⟩, g4⟩, g5⟩, g6⟩ := h5
  simp [Cond.before, Cond.holds, Cond.value, h1, h2, h3, h4, g1, g2, g3, g4, g5, g6]
def isCode : Jvm.Cond → Bool
  | .code _ _ _ _ => true
  | _ => false
theorem all_split {L : List Jvm.Cond} {P : Jvm.Cond → Bool} (h1 : L.all (fun c => isCode c || P c) = true) (h2 : ∀ c ∈ L.filter isCode, P c = true) : L.all P = true := by
  refine List.all_eq_true.mpr fun c hc => ?_
  have h := List.all_eq_true.mp h1 c hc
  rcases Bool.eq_false_or_eq_true (isCode c) with hi | hi
  · exact h2 c (List.mem_filter.mpr ⟨hc, hi⟩)
  · simpa [hi] using h
set_option maxRecDepth 65536 in
theorem w_c0 : (Jvm.Cond.code x code maxLocals ret).before args0 about1 = true := code_word (m := ⟨1, 1⟩) (meth := k1m1) (c := k1c1) (by decide +kernel) rfl rfl rfl (by decide +kernel)
set_option maxRecDepth 65536 in
theorem w_c1 : (Jvm.Cond.code ({ cls := "com/example/sessn/sessn/session/Weights", name := "weight", desc := "(IID)D" } : Jvm.MethodName) prog_28_method_6_code (7 : Nat) (Option.some Jvm.ClassFile.FieldType.double)).before args0 about1 = true := code_word (m := ⟨6, 0⟩) (meth := k6m0) (c := k6c0) (by decide +kernel) rfl rfl rfl (by decide +kernel)
def codes1 : List Jvm.Cond := [Jvm.Cond.code x code maxLocals ret, Jvm.Cond.code ({ cls := "com/example/sessn/sessn/session/Weights", name := "weight", desc := "(IID)D" } : Jvm.MethodName) prog_28_method_6_code (7 : Nat) (Option.some Jvm.ClassFile.FieldType.double)]
set_option maxRecDepth 65536 in
theorem codes_eq : words1.filter isCode = codes1 := rfl
theorem w_codes : ∀ c ∈ words1.filter isCode, c.before args0 about1 = true := by
  rw [codes_eq]
  intro c hc
  simp only [codes1, List.mem_cons, List.not_mem_nil, or_false] at hc
  rcases hc with rfl | rfl
  · exact w_c0
  · exact w_c1
set_option maxRecDepth 65536 in
theorem w_t1 : words1.all (fun c => isCode c || c.before args0 about1) = true := by decide +kernel
theorem w_tables : (allAtoms (Jvm.Cond.code x code maxLocals ret :: tables_1)).before args0 about1 = true := by
  rw [allAtoms_all]
  show words1.all (fun c => c.before args0 about1) = true
  refine all_split ?_ w_codes
  rw [w_t1]
set_option maxRecDepth 65536 in
theorem w_case : (Jvm.Cond.and given_1 narrow_1).before args0 about1 = true := by decide +kernel
theorem w_applies : (headSpec (Jvm.Cond.code x code maxLocals ret :: tables_1) room_1).applies x e0.platform about1 = true :=
  (Spec.applies_iff w_frames).mpr ⟨w_running, w_runnable, w_alone, w_named, w_hears, w_ripe, w_room, w_tables⟩
theorem atStart : AtStart classFile x code maxLocals ret World_1 tables_1 room_1 Calls_1 rest_1 Pre_1 launch0 p0 e0 about1 theMethod args0 below0 :=
  ⟨lists_1, trivial, launch0.admits_env _ _ _, launch0.least_env, fairChoices_fair.cas, fairChoices_fair.clock, w_frames, w_args, w_heap, w_applies, trivial, trivial, w_case⟩
end start1
theorem witness_1 : WitnessClaimed_1 := ⟨start1.p0, start1.e0, start1.about1, start1.theMethod, start1.args0, start1.below0, start1.atStart⟩
end Jvm.Pilot.@@N@@
