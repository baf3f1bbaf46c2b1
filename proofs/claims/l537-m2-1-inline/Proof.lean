import JvmDerived
import JvmDerived.Pilot.@@N@@Statement
import JvmDerived.Pilot.@@N@@Code
set_option linter.unusedVariables false
set_option linter.unusedSimpArgs false
namespace Jvm.Own
open Jvm Jvm.ClassFile Sem Op Lib Jvm.Free Jvm.Stand Jvm.LawKit Jvm.RoadKit Bundle
/-- from pc, with these locals and this stack, over the heap h, the body runs to its return, and Q holds of what it returns and of the heap it leaves -/
def Go (l : Launch) (Z : State) (n0 : Nat) (R : Room) (own nm : String) (code : ByteArray) (mL : Nat) (ret : Option FieldType) (I : State → Heap → Prop) (F : State → Option Value → State → List Loc → Prop)
    (h : Heap) (cells slots pc : Nat) (Ls : Array Slot) (st : List Value) : Prop :=
  ∀ (p : Program) (e : Env) (s : State) (m : MethodId) (args : Array Value) (below : List Frame) (meth : Method) (c : Code) (T : State) (locs : List Loc),
    p.tables.exec = Jvm.exec → Z.Warmed39 s.vm → s.vm.findClass own = some m.cls → meth.name = nm → c.code = code → c.maxLocals = mL → meth.sig.returnType = ret → meth.locks = false →
    Stand p l e R s m args below meth c T locs cells slots → Fr n0 locs → T.heap = h → I s h →
    ∃ s₂ v L, Steps p.tables e below (T.setTop (mkF m pc Ls st)) s₂ ∧ s₂.status = .running ∧ Ended s₂ below (.returned v) ∧ F s v s₂ L
/-- nothing is asked beside -/
abbrev IN : State → Heap → Prop := fun _ _ => True
/-- the end of a walk that interns nothing -/
def FN (n0 : Nat) (R : Room) (Q : Option Value → Heap → Prop) : State → Option Value → State → List Loc → Prop := fun s v s₂ L => Fr n0 L ∧ Q v s₂.heap ∧ FrameEnd s (.returned v) s₂ L R.cells R.slots
/-- a body's contract: called with as' over the heap h0 it returns, and Q holds -/
def Ct (l : Launch) (Z : State) (n0 : Nat) (own nm ds : String) (ws : List Cond) (code : ByteArray) (mL : Nat) (ret : Option FieldType) (rm : Room) (as' : Array Value) (h0 : Heap) (Q : Option Value → Heap → Prop) : Prop :=
  MetFree l (⟨own, nm, ds⟩ : MethodName) (head1 (Cond.code (⟨own, nm, ds⟩ : MethodName) code mL ret :: ws) rm) (fun a U => a = as' ∧ Z.Warmed39 U.vm ∧ U.heap = h0) (fun _ _ _ _ _ => True)
    (fun _ U o U' => ∃ v L, o = .returned v ∧ (Fr n0 L ∧ Q v U'.heap) ∧ FrameEnd U o U' L rm.cells rm.slots)
theorem cat_ref {v : Value} (h : v.isRef = true) : v.category = 1 := by cases v <;> simp_all [Value.isRef, Value.category]
theorem fits_ref' {v : Value} {C : String} (h : v.isRef = true) : fits (.object C) v = true := by cases v <;> simp_all [Value.isRef, fits]
theorem st_at {Ls Ls' : Array Slot} {k : Nat} {v : Value} {o : Slot} (hold : Ls[k]? = some o) (ho : One o) (hv : v.category = 1) (e : Ls.setIfInBounds k (.val v) = Ls') : storeLocals Ls k v = some Ls' := by rw [XS.store1 hold ho hv, e]
/-- null, or an object of just that class -/
def Nul (Z : State) (h : Heap) (v : Value) (C : String) : Prop := v = .null ∨ ∃ a, v = .ref a ∧ Exa Z h a C
theorem Nul.keep {Z : State} {h h' : Heap} {v : Value} {C : String} {ws : List Addr} (F : Nul Z h v C) (K : Keep h h' ws) : Nul Z h' v C := F.imp id fun ⟨a, e, E⟩ => ⟨a, e, E.keep K⟩
theorem Nul.isRef {Z : State} {h : Heap} {v : Value} {C : String} (F : Nul Z h v C) : v.isRef = true := by rcases F with rfl | ⟨a, rfl, -⟩ <;> rfl
theorem Nul.ins {Z : State} {h : Heap} {v : Value} {C : String} (F : Nul Z h v C) : v = .null ∨ ∃ a, v = .ref a ∧ Ins Z h a C true := F.imp id fun ⟨a, e, E⟩ => ⟨a, e, Ins.self E⟩
/-- a private method of a class that can be made selects itself -/
theorem sel_priv {Z : State} {a0 : Array Value} {y : MethodName} {n : Nat} (wi : (Cond.instantiable y.cls n).before a0 Z = true) (wm : (Cond.instanceMethod y).before a0 Z = true) (wp : (Cond.privateMethod y).before a0 Z = true) (hy : y.cls ≠ "java/lang/invoke/MethodHandle" ∧ y.cls ≠ "java/lang/invoke/VarHandle") : (Cond.selects y.cls y y).before a0 Z = true := by
  obtain ⟨mk, meth, hnamed, hmeth, -, -⟩ := Cond.instanceMethod_spec wm
  obtain ⟨c, k, hc, hk, -, hi, -, -⟩ := Cond.instantiable_spec wi
  have hfound := State.methodFound?_of_named hnamed hy
  have hc' := findClass_of_methodNamed hnamed
  cases hc.symm.trans hc'
  have hsel : selectMethod {} Z.vm mk.cls mk = .method mk := selectMethod_private hmeth (Cond.privateMethod_at wp mk meth hnamed hmeth)
  have hni : k.isInterface = false := by simp only [Bool.or_eq_false_iff] at hi; exact hi.1
  simp [Cond.before, Cond.holds, Cond.value, hc', hfound, hnamed, hsel, hk, hni]
/-- a call that is paid: by whatever theorem -/
def Pays (l : Launch) (Z : State) (n0 : Nat) (R : Room) (y : MethodName) (len W : Nat) (as' : Array Value) (h : Heap) (kc ks : Nat) (Q : Option Value → Heap → Prop) : Prop :=
  ∀ (p : Program) (e : Env) (below : List Frame) (s : State) (args : Array Value), Z.Warmed39 s.vm →
    Back l R p e below s args y len W (fun A a => a = as' ∧ A.U.heap = h ∧ A.cells + kc ≤ R.cells ∧ A.slots + ks ≤ R.slots) (fun A _ v B => ∃ L, (Fr n0 L ∧ Q v B.U.heap) ∧ B.locs = A.locs ++ L ∧ B.cells = A.cells + kc ∧ B.slots = A.slots + ks)
theorem nI {h : Heap} {ws : List Addr} : ∀ (s : State) (h' : Heap), Keep h h' ws → IN s h → IN s h' := fun _ _ _ _ => trivial
theorem nE {h : Heap} : ∀ (s : State) (h' : Heap), Ext h h' → h.size < h'.size → IN s h → IN s h' := fun _ _ _ _ _ => trivial
theorem nQ {h : Heap} {Q : Option Value → Heap → Prop} : ∀ (v : Option Value) (s : State) (h' : Heap), Q v h' → IN s h → IN s h' := fun _ _ _ _ _ => trivial
section Go
variable {l : Launch} {Z : State} {n0 : Nat} {R : Room} {own nm : String} {code : ByteArray} {mL : Nat} {ret : Option FieldType} {Q : Option Value → Heap → Prop} {I I' : State → Heap → Prop} {F : State → Option Value → State → List Loc → Prop} {h : Heap} {cells slots pc : Nat} {Ls : Array Slot} {st rest : List Value} {a0 : Array Value}
theorem Ct.of_go {ds : String} {ws : List Cond} {rm : Room} {as' : Array Value} {h0 : Heap} (hp : plainFor (⟨own, nm, ds⟩ : MethodName) = true) (hef : ∀ m, entryFrame m as' mL = mkF m 0 Ls []) (hg : Go l Z n0 rm own nm code mL ret IN (FN n0 rm Q) h0 0 0 0 Ls []) : Ct l Z n0 own nm ds ws code mL ret rm as' h0 Q := by
  refine MetFree.of_bodySF hp hisR ?_
  intro p e s m args below meth c s₁ Bd hml hP hK
  obtain ⟨rfl, hZ, hh⟩ := hP
  have hown : s.vm.findClass own = some m.cls := findClass_of_methodNamed Bd.named
  have hnm := (name_of_methodNamed Bd.named Bd.method).1
  have X0 : Stand p l e rm s m args below meth c s₁ [] 0 0 := Stand.of_body Bd
  have e0 : s₁.heap = h0 := by rw [← hh, Bd.state]; rfl
  obtain ⟨s₂, v, L, h1, h2, h3, h4, h5, h6⟩ := hg p e s m args below meth c s₁ [] Bd.exec hZ hown hnm Bd.bytes hml Bd.returns Bd.notSynchronized X0 (Fr.nil n0) e0 trivial
  exact ⟨s₂, _, castTop (hef m) h1, h2, h3, v, L, rfl, ⟨h4, h5⟩, h6⟩
theorem Ct.mono {ds : String} {ws : List Cond} {rm : Room} {as' : Array Value} {h0 : Heap} {Q' : Option Value → Heap → Prop} (C : Ct l Z n0 own nm ds ws code mL ret rm as' h0 Q) (hq : ∀ v h, Q v h → Q' v h) : Ct l Z n0 own nm ds ws code mL ret rm as' h0 Q' := by
  intro p e ha hc hk s m args below hf happ hP hK
  obtain ⟨n, o, h1, h2, h3, v, L, h4, ⟨h5, h6⟩, h7⟩ := C p e ha hc hk s m args below hf happ hP hK
  exact ⟨n, o, h1, h2, h3, v, L, h4, ⟨h5, hq _ _ h6⟩, h7⟩
theorem Go.more {cells' slots' : Nat} (hg : Go l Z n0 R own nm code mL ret I F h cells' slots' pc Ls st) (hc : cells ≤ cells') (hs : slots ≤ slots') : Go l Z n0 R own nm code mL ret I F h cells slots pc Ls st := by
  intro p e s m args below meth c T locs hx hZ ho hn hc' hm hr hk X N eT hJ
  exact hg p e s m args below meth c T locs hx hZ ho hn hc' hm hr hk (X.more hc hs) N eT hJ
theorem Go.castL {Ls' : Array Slot} (q : Ls = Ls') (hg : Go l Z n0 R own nm code mL ret I F h cells slots pc Ls' st) : Go l Z n0 R own nm code mL ret I F h cells slots pc Ls st := q ▸ hg
/-- a step that leaves the heap as it is -/
theorem Go.pure {pc' : Nat} {Ls' : Array Slot} {st' : List Value}
    (H : ∀ {p : Program} {e : Env} {s : State} {m : MethodId} {args : Array Value} {below : List Frame} {meth : Method} {c : Code} {T : State} {locs : List Loc} {target : State}, p.tables.exec = Jvm.exec → Z.Warmed39 s.vm → s.vm.findClass own = some m.cls → c.code = code →
      Stand p l e R s m args below meth c T locs cells slots → T.heap = h → Steps p.tables e below (T.setTop (mkF m pc' Ls' st')) target → Steps p.tables e below (T.setTop (mkF m pc Ls st)) target)
    (hr : Go l Z n0 R own nm code mL ret I F h cells slots pc' Ls' st') : Go l Z n0 R own nm code mL ret I F h cells slots pc Ls st := by
  intro p e s m args below meth c T locs hx hZ ho hn hc hm hr' hk X N eT hJ
  obtain ⟨s₂, v, L, h1, r⟩ := hr p e s m args below meth c T locs hx hZ ho hn hc hm hr' hk X N eT hJ
  exact ⟨s₂, v, L, H hx hZ ho hc X eT h1, r⟩
/-- a step over the tables that leaves the heap as it is -/
theorem Go.warm {pc' : Nat} {Ls' : Array Slot} {st' : List Value}
    (H : ∀ {p : Program} {e : Env} {s : State} {m : MethodId} {args : Array Value} {below : List Frame} {meth : Method} {c : Code} {T : State} {locs : List Loc}, p.tables.exec = Jvm.exec → Z.Warmed39 s.vm → s.vm.findClass own = some m.cls → c.code = code → c.maxLocals = mL →
      Stand p l e R s m args below meth c T locs cells slots → T.heap = h → ∃ T', Stand p l e R s m args below meth c T' locs cells slots ∧ T'.heap = h ∧ ∀ target, Steps p.tables e below (T'.setTop (mkF m pc' Ls' st')) target → Steps p.tables e below (T.setTop (mkF m pc Ls st)) target)
    (hr : Go l Z n0 R own nm code mL ret I F h cells slots pc' Ls' st') : Go l Z n0 R own nm code mL ret I F h cells slots pc Ls st := by
  intro p e s m args below meth c T locs hx hZ ho hn hc hm hr' hk X N eT hJ
  obtain ⟨T', X', e', stp⟩ := H hx hZ ho hc hm X eT
  obtain ⟨s₂, v, L, h1, r⟩ := hr p e s m args below meth c T' locs hx hZ ho hn hc hm hr' hk X' N e' hJ
  exact ⟨s₂, v, L, stp _ h1, r⟩
/-! plain steps -/
theorem Go.iloadN {k : Fin 4} {v : Int32} (hd : decode code pc = .ok (.iload_n k, 1)) (hl : Ls[k.val]? = some (.val (.int v))) (hr : Go l Z n0 R own nm code mL ret I F h cells slots (pc + 1) Ls (.int v :: st)) : Go l Z n0 R own nm code mL ret I F h cells slots pc Ls st := Go.pure (fun hx _ _ hc X _ k => XS.iloadN X.here hx rfl (hb hc hd) hl k) hr
theorem Go.iload {k : Nat} {v : Int32} (hd : decode code pc = .ok (.iload k, 2)) (hl : Ls[k]? = some (.val (.int v))) (hr : Go l Z n0 R own nm code mL ret I F h cells slots (pc + 2) Ls (.int v :: st)) : Go l Z n0 R own nm code mL ret I F h cells slots pc Ls st := Go.pure (fun hx _ _ hc X _ k => XS.iload X.here hx rfl (hb hc hd) hl k) hr
theorem Go.lloadN {k : Fin 4} {v : Int64} (hd : decode code pc = .ok (.lload_n k, 1)) (hl : Ls[k.val]? = some (.val (.long v))) (hr : Go l Z n0 R own nm code mL ret I F h cells slots (pc + 1) Ls (.long v :: st)) : Go l Z n0 R own nm code mL ret I F h cells slots pc Ls st := Go.pure (fun hx _ _ hc X _ k => XT.lloadN X.here hx rfl (hb hc hd) hl k) hr
theorem Go.lload {k : Nat} {v : Int64} (hd : decode code pc = .ok (.lload k, 2)) (hl : Ls[k]? = some (.val (.long v))) (hr : Go l Z n0 R own nm code mL ret I F h cells slots (pc + 2) Ls (.long v :: st)) : Go l Z n0 R own nm code mL ret I F h cells slots pc Ls st := Go.pure (fun hx _ _ hc X _ k => XT.lload X.here hx rfl (hb hc hd) hl k) hr
theorem Go.aloadN {k : Fin 4} {v : Value} (hd : decode code pc = .ok (.aload_n k, 1)) (hl : Ls[k.val]? = some (.val v)) (hv : v.isRef = true) (hr : Go l Z n0 R own nm code mL ret I F h cells slots (pc + 1) Ls (v :: st)) : Go l Z n0 R own nm code mL ret I F h cells slots pc Ls st := Go.pure (fun hx _ _ hc X _ k => XS.aloadN X.here hx rfl (hb hc hd) hl hv k) hr
theorem Go.aload {k : Nat} {v : Value} (hd : decode code pc = .ok (.aload k, 2)) (hl : Ls[k]? = some (.val v)) (hv : v.isRef = true) (hr : Go l Z n0 R own nm code mL ret I F h cells slots (pc + 2) Ls (v :: st)) : Go l Z n0 R own nm code mL ret I F h cells slots pc Ls st := Go.pure (fun hx _ _ hc X _ k => XS.aload X.here hx rfl (hb hc hd) hl hv k) hr
theorem Go.istoreN {k : Fin 4} {x : Int32} {Ls' : Array Slot} (hd : decode code pc = .ok (.istore_n k, 1)) (hl : storeLocals Ls k.val (.int x) = some Ls') (hr : Go l Z n0 R own nm code mL ret I F h cells slots (pc + 1) Ls' st) : Go l Z n0 R own nm code mL ret I F h cells slots pc Ls (.int x :: st) := Go.pure (fun hx _ _ hc X _ k => XS.istoreN X.here hx rfl (hb hc hd) rfl hl k) hr
theorem Go.istore {k : Nat} {x : Int32} {Ls' : Array Slot} (hd : decode code pc = .ok (.istore k, 2)) (hl : storeLocals Ls k (.int x) = some Ls') (hr : Go l Z n0 R own nm code mL ret I F h cells slots (pc + 2) Ls' st) : Go l Z n0 R own nm code mL ret I F h cells slots pc Ls (.int x :: st) := Go.pure (fun hx _ _ hc X _ k => XS.istore X.here hx rfl (hb hc hd) rfl hl k) hr
theorem Go.lstoreN {k : Fin 4} {x : Int64} {Ls' : Array Slot} (hd : decode code pc = .ok (.lstore_n k, 1)) (hl : storeLocals Ls k.val (.long x) = some Ls') (hr : Go l Z n0 R own nm code mL ret I F h cells slots (pc + 1) Ls' st) : Go l Z n0 R own nm code mL ret I F h cells slots pc Ls (.long x :: st) := Go.pure (fun hx _ _ hc X _ k => XT.lstoreN X.here hx rfl (hb hc hd) rfl hl k) hr
theorem Go.lstore {k : Nat} {x : Int64} {Ls' : Array Slot} (hd : decode code pc = .ok (.lstore k, 2)) (hl : storeLocals Ls k (.long x) = some Ls') (hr : Go l Z n0 R own nm code mL ret I F h cells slots (pc + 2) Ls' st) : Go l Z n0 R own nm code mL ret I F h cells slots pc Ls (.long x :: st) := Go.pure (fun hx _ _ hc X _ k => XT.lstore X.here hx rfl (hb hc hd) rfl hl k) hr
theorem Go.astoreN {k : Fin 4} {x : Value} {Ls' : Array Slot} (hd : decode code pc = .ok (.astore_n k, 1)) (hv : x.isRef = true) (hl : storeLocals Ls k.val x = some Ls') (hr : Go l Z n0 R own nm code mL ret I F h cells slots (pc + 1) Ls' st) : Go l Z n0 R own nm code mL ret I F h cells slots pc Ls (x :: st) := Go.pure (fun hx _ _ hc X _ k => XS.astoreN X.here hx rfl (hb hc hd) rfl hv hl k) hr
theorem Go.astore {k : Nat} {x : Value} {Ls' : Array Slot} (hd : decode code pc = .ok (.astore k, 2)) (hv : x.isRef = true) (hl : storeLocals Ls k x = some Ls') (hr : Go l Z n0 R own nm code mL ret I F h cells slots (pc + 2) Ls' st) : Go l Z n0 R own nm code mL ret I F h cells slots pc Ls (x :: st) := Go.pure (fun hx _ _ hc X _ k => XS.astore X.here hx rfl (hb hc hd) rfl hv hl k) hr
theorem Go.iconst {i : Int} (z : Int32) (hd : decode code pc = .ok (.iconst i, 1)) (hz : Int32.ofInt i = z) (hr : Go l Z n0 R own nm code mL ret I F h cells slots (pc + 1) Ls (.int z :: st)) : Go l Z n0 R own nm code mL ret I F h cells slots pc Ls st := by subst hz; exact Go.pure (fun hx _ _ hc X _ k => XS.iconst X.here hx rfl (hb hc hd) k) hr
theorem Go.bipush {i : Int} (z : Int32) (hd : decode code pc = .ok (.bipush i, 2)) (hz : (Int8.ofInt i).toInt32 = z) (hr : Go l Z n0 R own nm code mL ret I F h cells slots (pc + 2) Ls (.int z :: st)) : Go l Z n0 R own nm code mL ret I F h cells slots pc Ls st := by subst hz; exact Go.pure (fun hx _ _ hc X _ k => XS.bipush X.here hx rfl (hb hc hd) k) hr
theorem Go.sipush {i : Int} (z : Int32) (hd : decode code pc = .ok (.sipush i, 3)) (hz : (Int16.ofInt i).toInt32 = z) (hr : Go l Z n0 R own nm code mL ret I F h cells slots (pc + 3) Ls (.int z :: st)) : Go l Z n0 R own nm code mL ret I F h cells slots pc Ls st := by subst hz; exact Go.pure (fun hx _ _ hc X _ k => XS.sipush X.here hx rfl (hb hc hd) k) hr
theorem Go.null (hd : decode code pc = .ok (.aconst_null, 1)) (hr : Go l Z n0 R own nm code mL ret I F h cells slots (pc + 1) Ls (.null :: st)) : Go l Z n0 R own nm code mL ret I F h cells slots pc Ls st := Go.pure (fun hx _ _ hc X _ k => XS.aconstNull X.here hx rfl (hb hc hd) k) hr
theorem Go.iadd {x y : Int32} (hd : decode code pc = .ok (.iadd, 1)) (hr : Go l Z n0 R own nm code mL ret I F h cells slots (pc + 1) Ls (.int (x + y) :: st)) : Go l Z n0 R own nm code mL ret I F h cells slots pc Ls (.int y :: .int x :: st) := Go.pure (fun hx _ _ hc X _ k => XS.iadd X.here hx rfl (hb hc hd) rfl k) hr
theorem Go.isub {x y : Int32} (hd : decode code pc = .ok (.isub, 1)) (hr : Go l Z n0 R own nm code mL ret I F h cells slots (pc + 1) Ls (.int (x - y) :: st)) : Go l Z n0 R own nm code mL ret I F h cells slots pc Ls (.int y :: .int x :: st) := Go.pure (fun hx _ _ hc X _ k => XS.isub X.here hx rfl (hb hc hd) rfl k) hr
theorem Go.imul {x y : Int32} (hd : decode code pc = .ok (.imul, 1)) (hr : Go l Z n0 R own nm code mL ret I F h cells slots (pc + 1) Ls (.int (x * y) :: st)) : Go l Z n0 R own nm code mL ret I F h cells slots pc Ls (.int y :: .int x :: st) := Go.pure (fun hx _ _ hc X _ k => XS.imul X.here hx rfl (hb hc hd) rfl k) hr
theorem Go.idiv {x y : Int32} (hd : decode code pc = .ok (.idiv, 1)) (hy : y ≠ 0) (hr : Go l Z n0 R own nm code mL ret I F h cells slots (pc + 1) Ls (.int (x / y) :: st)) : Go l Z n0 R own nm code mL ret I F h cells slots pc Ls (.int y :: .int x :: st) := Go.pure (fun hx _ _ hc X _ k => XS.idiv X.here hx rfl (hb hc hd) rfl hy k) hr
theorem Go.irem {x y : Int32} (hd : decode code pc = .ok (.irem, 1)) (hy : y ≠ 0) (hr : Go l Z n0 R own nm code mL ret I F h cells slots (pc + 1) Ls (.int (x % y) :: st)) : Go l Z n0 R own nm code mL ret I F h cells slots pc Ls (.int y :: .int x :: st) := Go.pure (fun hx _ _ hc X _ k => iremM X hx (g := mkF _ pc Ls _) rfl (hb hc hd) rfl hy k) hr
theorem Go.ineg {x : Int32} (hd : decode code pc = .ok (.ineg, 1)) (hr : Go l Z n0 R own nm code mL ret I F h cells slots (pc + 1) Ls (.int (-x) :: st)) : Go l Z n0 R own nm code mL ret I F h cells slots pc Ls (.int x :: st) := Go.pure (fun hx _ _ hc X _ k => XS.ineg X.here hx rfl (hb hc hd) rfl k) hr
theorem Go.iand {x y : Int32} (hd : decode code pc = .ok (.iand, 1)) (hr : Go l Z n0 R own nm code mL ret I F h cells slots (pc + 1) Ls (.int (x &&& y) :: st)) : Go l Z n0 R own nm code mL ret I F h cells slots pc Ls (.int y :: .int x :: st) := Go.pure (fun hx _ _ hc X _ k => XS.iand X.here hx rfl (hb hc hd) rfl k) hr
theorem Go.ior {x y : Int32} (hd : decode code pc = .ok (.ior, 1)) (hr : Go l Z n0 R own nm code mL ret I F h cells slots (pc + 1) Ls (.int (x ||| y) :: st)) : Go l Z n0 R own nm code mL ret I F h cells slots pc Ls (.int y :: .int x :: st) := Go.pure (fun hx _ _ hc X _ k => XT.ior X.here hx rfl (hb hc hd) rfl k) hr
theorem Go.ixor {x y : Int32} (hd : decode code pc = .ok (.ixor, 1)) (hr : Go l Z n0 R own nm code mL ret I F h cells slots (pc + 1) Ls (.int (x ^^^ y) :: st)) : Go l Z n0 R own nm code mL ret I F h cells slots pc Ls (.int y :: .int x :: st) := Go.pure (fun hx _ _ hc X _ k => XT.ixor X.here hx rfl (hb hc hd) rfl k) hr
theorem Go.ishl {x y : Int32} (hd : decode code pc = .ok (.ishl, 1)) (hr : Go l Z n0 R own nm code mL ret I F h cells slots (pc + 1) Ls (.int (x <<< (y &&& 31)) :: st)) : Go l Z n0 R own nm code mL ret I F h cells slots pc Ls (.int y :: .int x :: st) := Go.pure (fun hx _ _ hc X _ k => XT.ishl X.here hx rfl (hb hc hd) rfl k) hr
theorem Go.ishr {x y : Int32} (hd : decode code pc = .ok (.ishr, 1)) (hr : Go l Z n0 R own nm code mL ret I F h cells slots (pc + 1) Ls (.int (x >>> (y &&& 31)) :: st)) : Go l Z n0 R own nm code mL ret I F h cells slots pc Ls (.int y :: .int x :: st) := Go.pure (fun hx _ _ hc X _ k => XT.ishr X.here hx rfl (hb hc hd) rfl k) hr
theorem Go.iushr {x y : Int32} (hd : decode code pc = .ok (.iushr, 1)) (hr : Go l Z n0 R own nm code mL ret I F h cells slots (pc + 1) Ls (.int ((x.toUInt32 >>> (y &&& 31).toUInt32).toInt32) :: st)) : Go l Z n0 R own nm code mL ret I F h cells slots pc Ls (.int y :: .int x :: st) := Go.pure (fun hx _ _ hc X _ k => XT.iushr X.here hx rfl (hb hc hd) rfl k) hr
theorem Go.i2c {x : Int32} (hd : decode code pc = .ok (.i2c, 1)) (hr : Go l Z n0 R own nm code mL ret I F h cells slots (pc + 1) Ls (.int x.toUInt32.toUInt16.toUInt32.toInt32 :: st)) : Go l Z n0 R own nm code mL ret I F h cells slots pc Ls (.int x :: st) := Go.pure (fun hx _ _ hc X _ k => XT.i2c X.here hx rfl (hb hc hd) rfl k) hr
theorem Go.i2b {x : Int32} (hd : decode code pc = .ok (.i2b, 1)) (hr : Go l Z n0 R own nm code mL ret I F h cells slots (pc + 1) Ls (.int x.toInt8.toInt32 :: st)) : Go l Z n0 R own nm code mL ret I F h cells slots pc Ls (.int x :: st) := Go.pure (fun hx _ _ hc X _ k => XT.i2b X.here hx rfl (hb hc hd) rfl k) hr
theorem Go.i2s {x : Int32} (hd : decode code pc = .ok (.i2s, 1)) (hr : Go l Z n0 R own nm code mL ret I F h cells slots (pc + 1) Ls (.int x.toInt16.toInt32 :: st)) : Go l Z n0 R own nm code mL ret I F h cells slots pc Ls (.int x :: st) := Go.pure (fun hx _ _ hc X _ k => XT.i2s X.here hx rfl (hb hc hd) rfl k) hr
theorem Go.iinc {k : Nat} {cst : Int} {x : Int32} {Ls' : Array Slot} (z : Int32) (hz : Int32.ofInt cst = z) (hd : decode code pc = .ok (.iinc k cst, 3)) (hl : Ls[k]? = some (.val (.int x))) (hl' : storeLocals Ls k (.int (x + z)) = some Ls') (hr : Go l Z n0 R own nm code mL ret I F h cells slots (pc + 3) Ls' st) : Go l Z n0 R own nm code mL ret I F h cells slots pc Ls st := by subst hz; exact Go.pure (fun hx _ _ hc X _ k => XS.iinc X.here hx rfl (hb hc hd) hl hl' k) hr
theorem Go.dup {x : Value} (hd : decode code pc = .ok (.dup, 1)) (hc : x.category = 1) (hr : Go l Z n0 R own nm code mL ret I F h cells slots (pc + 1) Ls (x :: x :: st)) : Go l Z n0 R own nm code mL ret I F h cells slots pc Ls (x :: st) := Go.pure (fun hx _ _ hc' X _ k => XS.dup X.here hx rfl (hb hc' hd) rfl hc k) hr
theorem Go.pop {x : Value} (hd : decode code pc = .ok (.pop, 1)) (hc : x.category = 1) (hr : Go l Z n0 R own nm code mL ret I F h cells slots (pc + 1) Ls st) : Go l Z n0 R own nm code mL ret I F h cells slots pc Ls (x :: st) := Go.pure (fun hx _ _ hc' X _ k => XT.pop X.here hx rfl (hb hc' hd) rfl hc k) hr
theorem Go.dupX1 {x y : Value} (hd : decode code pc = .ok (.dup_x1, 1)) (hc : x.category = 1) (hc2 : y.category = 1) (hr : Go l Z n0 R own nm code mL ret I F h cells slots (pc + 1) Ls (x :: y :: x :: st)) : Go l Z n0 R own nm code mL ret I F h cells slots pc Ls (x :: y :: st) := Go.pure (fun hx _ _ hc' X _ k => XT.dupX1 X.here hx rfl (hb hc' hd) rfl hc hc2 k) hr
theorem Go.dup2 {x y : Value} (hd : decode code pc = .ok (.dup2, 1)) (hc : x.category = 1) (hc2 : y.category = 1) (hr : Go l Z n0 R own nm code mL ret I F h cells slots (pc + 1) Ls (x :: y :: x :: y :: st)) : Go l Z n0 R own nm code mL ret I F h cells slots pc Ls (x :: y :: st) := Go.pure (fun hx _ _ hc' X _ k => XT.dup2 X.here hx rfl (hb hc' hd) rfl hc hc2 k) hr
/-! branches -/
theorem Go.goto {o : Int} (pc' : Nat) (hd : decode code pc = .ok (.goto o, 3)) (ho : 0 ≤ (pc : Int) + o) (hp : ((pc : Int) + o).toNat = pc') (hr : Go l Z n0 R own nm code mL ret I F h cells slots pc' Ls st) : Go l Z n0 R own nm code mL ret I F h cells slots pc Ls st := Go.pure (fun hx _ _ hc X _ k => XS.goto X.here hx rfl (pc0 := pc) rfl (hb hc hd) ho hp k) hr
theorem Go.ifT {cd : ClassFile.Cond} {x : Int32} {o : Int} (pc' : Nat) (hd : decode code pc = .ok (.ifCond cd o, 3)) (hc : if_icmp.holds cd x 0 = true) (ho : 0 ≤ (pc : Int) + o) (hp : ((pc : Int) + o).toNat = pc') (hr : Go l Z n0 R own nm code mL ret I F h cells slots pc' Ls st) : Go l Z n0 R own nm code mL ret I F h cells slots pc Ls (.int x :: st) := Go.pure (fun hx _ _ hc' X _ k => XS.ifYes X.here hx rfl (pc0 := pc) rfl (hb hc' hd) rfl ((if0 _ _).trans hc) ho hp k) hr
theorem Go.ifF {cd : ClassFile.Cond} {x : Int32} {o : Int} (hd : decode code pc = .ok (.ifCond cd o, 3)) (hc : if_icmp.holds cd x 0 = false) (hr : Go l Z n0 R own nm code mL ret I F h cells slots (pc + 3) Ls st) : Go l Z n0 R own nm code mL ret I F h cells slots pc Ls (.int x :: st) := Go.pure (fun hx _ _ hc' X _ k => XS.ifNo X.here hx rfl (hb hc' hd) rfl ((if0 _ _).trans hc) k) hr
theorem Go.icT {cd : ClassFile.Cond} {x y : Int32} {o : Int} (pc' : Nat) (hd : decode code pc = .ok (.if_icmp cd o, 3)) (hc : if_icmp.holds cd x y = true) (ho : 0 ≤ (pc : Int) + o) (hp : ((pc : Int) + o).toNat = pc') (hr : Go l Z n0 R own nm code mL ret I F h cells slots pc' Ls st) : Go l Z n0 R own nm code mL ret I F h cells slots pc Ls (.int y :: .int x :: st) := Go.pure (fun hx _ _ hc' X _ k => XS.icmpYes X.here hx rfl (pc0 := pc) rfl (hb hc' hd) rfl hc ho hp k) hr
theorem Go.icF {cd : ClassFile.Cond} {x y : Int32} {o : Int} (hd : decode code pc = .ok (.if_icmp cd o, 3)) (hc : if_icmp.holds cd x y = false) (hr : Go l Z n0 R own nm code mL ret I F h cells slots (pc + 3) Ls st) : Go l Z n0 R own nm code mL ret I F h cells slots pc Ls (.int y :: .int x :: st) := Go.pure (fun hx _ _ hc' X _ k => XS.icmpNo X.here hx rfl (hb hc' hd) rfl hc k) hr
theorem Go.nullT {o : Int} (pc' : Nat) (hd : decode code pc = .ok (.ifnull o, 3)) (ho : 0 ≤ (pc : Int) + o) (hp : ((pc : Int) + o).toNat = pc') (hr : Go l Z n0 R own nm code mL ret I F h cells slots pc' Ls st) : Go l Z n0 R own nm code mL ret I F h cells slots pc Ls (.null :: st) := Go.pure (fun hx _ _ hc' X _ k => XS.ifnullYes X.here hx rfl (pc0 := pc) rfl (hb hc' hd) rfl ho hp k) hr
theorem Go.nullF {o : Int} {b : Addr} (hd : decode code pc = .ok (.ifnull o, 3)) (hr : Go l Z n0 R own nm code mL ret I F h cells slots (pc + 3) Ls st) : Go l Z n0 R own nm code mL ret I F h cells slots pc Ls (.ref b :: st) := Go.pure (fun hx _ _ hc' X _ k => XS.ifnullNo X.here hx rfl (hb hc' hd) rfl k) hr
theorem Go.nnT {o : Int} {b : Addr} (pc' : Nat) (hd : decode code pc = .ok (.ifnonnull o, 3)) (ho : 0 ≤ (pc : Int) + o) (hp : ((pc : Int) + o).toNat = pc') (hr : Go l Z n0 R own nm code mL ret I F h cells slots pc' Ls st) : Go l Z n0 R own nm code mL ret I F h cells slots pc Ls (.ref b :: st) := Go.pure (fun hx _ _ hc' X _ k => XT.ifnonnullYes X.here hx rfl (pc0 := pc) rfl (hb hc' hd) rfl ho hp k) hr
theorem Go.nnF {o : Int} (hd : decode code pc = .ok (.ifnonnull o, 3)) (hr : Go l Z n0 R own nm code mL ret I F h cells slots (pc + 3) Ls st) : Go l Z n0 R own nm code mL ret I F h cells slots pc Ls (.null :: st) := Go.pure (fun hx _ _ hc' X _ k => XT.ifnonnullNo X.here hx rfl (hb hc' hd) rfl k) hr
theorem Go.acmp {cd : ACond} {x y : Value} {o : Int} (pc' : Nat) (same : Bool) (hd : decode code pc = .ok (.if_acmp cd o, 3)) (h1 : x.isRef = true) (h2 : y.isRef = true) (hq : decide (x = y) = same) (ho : 0 ≤ (pc : Int) + o) (hp : pc' = if acV cd same = true then ((pc : Int) + o).toNat else pc + 3) (hr : Go l Z n0 R own nm code mL ret I F h cells slots pc' Ls st) : Go l Z n0 R own nm code mL ret I F h cells slots pc Ls (y :: x :: st) :=
  Go.pure (fun hx _ _ hc' X _ k => Jvm.RoadKit.acmp (g := mkF _ pc Ls _) X hx rfl h1 h2 (pc0 := pc) (same := same) rfl (hb hc' hd) rfl hq ho hp k) hr
/-! constants of the pool -/
theorem Go.ldc {index : Nat} {v : Int32} (w : (Cond.constant own index v).before a0 Z = true) (hd : decode code pc = .ok (.ldc index, 2)) (hr : Go l Z n0 R own nm code mL ret I F h cells slots (pc + 2) Ls (.int v :: st)) : Go l Z n0 R own nm code mL ret I F h cells slots pc Ls st := Go.pure (fun hx hZ ho hc X _ k => X.ldcInt hx ho (mvT hZ w) (g := mkF _ pc Ls st) rfl (hb hc hd) _ k) hr
theorem Go.ldcw {index : Nat} {v : Int32} (w : (Cond.constant own index v).before a0 Z = true) (hd : decode code pc = .ok (.ldc_w index, 3)) (hr : Go l Z n0 R own nm code mL ret I F h cells slots (pc + 3) Ls (.int v :: st)) : Go l Z n0 R own nm code mL ret I F h cells slots pc Ls st := Go.pure (fun hx hZ ho hc X _ k => X.ldcwInt hx ho (mvT hZ w) (g := mkF _ pc Ls st) rfl (hb hc hd) _ k) hr
/-! fields -/
theorem Go.getF {R0 O n d : String} {index : Nat} {a : Addr} {v : Value} (w : (Cond.fieldLink own index R0 n d).before a0 Z = true) (via : Via Z R0 O n d) (FF : Fld Z h a O n d v) (hd : decode code pc = .ok (.getfield index, 3)) (hr : Go l Z n0 R own nm code mL ret I F h cells slots (pc + 3) Ls (v :: st)) : Go l Z n0 R own nm code mL ret I F h cells slots pc Ls (.ref a :: st) :=
  Go.warm (fun hx hZ ho hc _ X eT => Jvm.RoadKit.getF X hx hZ ho (host := "") (Or.inl w) via eT FF (g := mkF _ pc Ls _) rfl rfl (hb hc hd)) hr
theorem Go.getFN {R0 O n d host : String} {index : Nat} {a : Addr} {v : Value} (w : (Cond.fieldLinkNest own index R0 n d host).before a0 Z = true) (via : Via Z R0 O n d) (FF : Fld Z h a O n d v) (hd : decode code pc = .ok (.getfield index, 3)) (hr : Go l Z n0 R own nm code mL ret I F h cells slots (pc + 3) Ls (v :: st)) : Go l Z n0 R own nm code mL ret I F h cells slots pc Ls (.ref a :: st) :=
  Go.warm (fun hx hZ ho hc _ X eT => Jvm.RoadKit.getF X hx hZ ho (Or.inr w) via eT FF (g := mkF _ pc Ls _) rfl rfl (hb hc hd)) hr
theorem Go.getS {R0 O n d : String} {index : Nat} {v : Value} (w : (Cond.fieldLink own index R0 n d).before a0 Z = true) (via : Via Z R0 O n d) (FF : Sta Z h O n d v) (hd : decode code pc = .ok (.getstatic index, 3)) (hr : Go l Z n0 R own nm code mL ret I F h cells slots (pc + 3) Ls (v :: st)) : Go l Z n0 R own nm code mL ret I F h cells slots pc Ls st :=
  Go.warm (fun hx hZ ho hc _ X eT => Jvm.RoadKit.getS2 X hx hZ ho (host := "") (Or.inl w) via eT FF (g := mkF _ pc Ls st) rfl (hb hc hd)) hr
theorem Go.putF {R0 O n d C : String} {index kk : Nat} {ty : FieldType} {a : Addr} {v old : Value} (w : (Cond.fieldLink own index R0 n d).before a0 Z = true) (via : Via Z R0 O n d) (FF : Fld Z h a O n d old) (E : Exa Z h a C) (L : (Cond.lays C O n d).before a0 Z = true ∨ ((Cond.laysFinal C O n d).before a0 Z = true ∧ own = O ∧ nm = "<init>")) (wi : (Cond.instantiable C kk).before a0 Z = true)
    (hty : parseFieldDescriptor d = some ty) (hnw : narrow ty v = v) (hf : fits ty v = true) (q : n0 ≤ a) (hd : decode code pc = .ok (.putfield index, 3)) (hI : ∀ (s : State) (h' : Heap), Keep h h' [a] → I s h → I' s h') (hr : ∀ h', Wr h h' a (Jvm.RoadKit.slotOf Z O n d) v → Go l Z n0 R own nm code mL ret I' F h' cells slots (pc + 3) Ls st) : Go l Z n0 R own nm code mL ret I F h cells slots pc Ls (v :: .ref a :: st) := by
  intro p e s m args below meth c T locs hx hZ ho hn hc hm hr' hk X N eT hJ
  obtain ⟨T', h', X', e', W', stp⟩ := Jvm.RoadKit.putF X hx hZ ho (host := "") (Or.inl w) via eT FF E (L.imp id fun z => ⟨z.1, z.2.1, hn.trans z.2.2⟩) wi hty hnw hf (g := mkF m pc Ls (v :: .ref a :: st)) rfl rfl (hb hc hd)
  obtain ⟨s₂, v, L, h1, r⟩ := hr h' W' p e s m args below meth c T' _ hx hZ ho hn hc hm hr' hk X' (Fr.snoc X' N q) e' (hI s h' (Keep.of_wr W') hJ)
  exact ⟨s₂, v, L, stp _ h1, r⟩
/-- a field of a narrow kind -/
theorem Go.putFN {R0 O n d C : String} {index kk : Nat} {ty : FieldType} {a : Addr} {v v' old : Value} (w : (Cond.fieldLink own index R0 n d).before a0 Z = true) (via : Via Z R0 O n d) (FF : Fld Z h a O n d old) (E : Exa Z h a C) (L : (Cond.lays C O n d).before a0 Z = true ∨ ((Cond.laysFinal C O n d).before a0 Z = true ∧ own = O ∧ nm = "<init>")) (wi : (Cond.instantiable C kk).before a0 Z = true)
    (hty : parseFieldDescriptor d = some ty) (hnw : narrow ty v = v') (hf : fits ty v' = true) (q : n0 ≤ a) (hd : decode code pc = .ok (.putfield index, 3)) (hI : ∀ (s : State) (h' : Heap), Keep h h' [a] → I s h → I' s h') (hr : ∀ h', Wr h h' a (Jvm.RoadKit.slotOf Z O n d) v' → Go l Z n0 R own nm code mL ret I' F h' cells slots (pc + 3) Ls st) : Go l Z n0 R own nm code mL ret I F h cells slots pc Ls (v :: .ref a :: st) := by
  intro p e s m args below meth c T locs hx hZ ho hn hc hm hr' hk X N eT hJ
  obtain ⟨T', h', X', e', W', stp⟩ := Jvm.RoadKit.putFN X hx hZ ho w via eT FF E (L.imp id fun z => ⟨z.1, z.2.1, hn.trans z.2.2⟩) wi hty hnw hf (g := mkF m pc Ls (v :: .ref a :: st)) rfl rfl (hb hc hd)
  obtain ⟨s₂, v, L, h1, r⟩ := hr h' W' p e s m args below meth c T' _ hx hZ ho hn hc hm hr' hk X' (Fr.snoc X' N q) e' (hI s h' (Keep.of_wr W') hJ)
  exact ⟨s₂, v, L, stp _ h1, r⟩
/-! making -/
theorem Go.new {C : String} {index n : Nat} (w : (Cond.classLink own index C).before a0 Z = true) (wi : (Cond.instantiable C n).before a0 Z = true) (wz : (Cond.initialized C).before a0 Z = true) (hd : decode code pc = .ok (.new index, 3)) (hc1 : cells + 1 ≤ R.cells) (hl : slots + n ≤ R.slots)
    (hI : ∀ (s : State) (h' : Heap), Ext h h' → h.size < h'.size → I s h → I' s h') (hr : ∀ (h' : Heap) (b : Addr), b = h.size → Ext h h' → Exa Z h' b C → (∀ {O nm d : String} {ty : FieldType}, Laid Z a0 C O nm d → parseFieldDescriptor d = some ty → Fld Z h' b O nm d (defaultValue ty)) → Go l Z n0 R own nm code mL ret I' F h' (cells + 1) (slots + n) (pc + 3) Ls (.ref b :: st)) : Go l Z n0 R own nm code mL ret I F h cells slots pc Ls st := by
  intro p e s m args below meth c T locs hx hZ ho hn hc hm hr' hk X N eT hJ
  obtain ⟨T', h', X', e', E', A', D', -, stp⟩ := newO X hx hZ ho w wi wz eT (g := mkF m pc Ls st) rfl (hb hc hd) hc1 hl
  obtain ⟨s₂, v, L, h1, r⟩ := hr h' _ rfl E' A' D' p e s m args below meth c T' _ hx hZ ho hn hc hm hr' hk X' N e' (hI s h' E' A'.lt hJ)
  exact ⟨s₂, v, L, stp _ h1, r⟩
theorem Go.newP {aty : ArrayType} (ty : FieldType) {n : Int32} (w : (Cond.arrayClass ty).before a0 Z = true) (hty : newarray.typeOf aty = ty) (hd : decode code pc = .ok (.newarray aty, 2)) (hn0 : ¬ n < 0) (cap : Nat) (hcap : n.toNatClampNeg ≤ cap) (hb0 : cap * 8 ≤ 536870912) (hc1 : cells + 1 ≤ R.cells) (hl : slots + cap ≤ R.slots)
    (hI : ∀ (s : State) (h' : Heap), Ext h h' → h.size < h'.size → I s h → I' s h') (hr : ∀ (h' : Heap) (b : Addr) (k : ClassId), b = h.size → Ext h h' → Arv Z h' b k ty n [] (defaultValue ty) → Go l Z n0 R own nm code mL ret I' F h' (cells + 1) (slots + cap) (pc + 2) Ls (.ref b :: st)) : Go l Z n0 R own nm code mL ret I F h cells slots pc Ls (.int n :: st) := by
  subst hty
  intro p e s m args below meth c T locs hx hZ ho hn hc hm hr' hk X N eT hJ
  obtain ⟨T', h', k, X', e', E', A', stp⟩ := Jvm.RoadKit.newP X hx hZ w eT (g := mkF m pc Ls (.int n :: st)) rfl (hb hc hd) rfl hn0 hcap hb0 hc1 hl
  obtain ⟨s₂, v, L, h1, r⟩ := hr h' _ k rfl E' (Arv.new A' hn0) p e s m args below meth c T' _ hx hZ ho hn hc hm hr' hk X' N e' (hI s h' E' A'.lt hJ)
  exact ⟨s₂, v, L, stp _ h1, r⟩
theorem Go.newR {C : String} {index : Nat} {n : Int32} (w : (Cond.classLink own index C).before a0 Z = true) (w2 : (Cond.arrayOver (.object C)).before a0 Z = true) (hd : decode code pc = .ok (.anewarray index, 3)) (hn0 : ¬ n < 0) (cap : Nat) (hcap : n.toNatClampNeg ≤ cap) (hb0 : cap * 8 ≤ 536870912) (hc1 : cells + 1 ≤ R.cells) (hl : slots + cap ≤ R.slots)
    (hI : ∀ (s : State) (h' : Heap), Ext h h' → h.size < h'.size → I s h → I' s h') (hr : ∀ (h' : Heap) (b : Addr) (k : ClassId), b = h.size → Ext h h' → Arv Z h' b k (.object C) n [] .null → Ovr Z k C → Go l Z n0 R own nm code mL ret I' F h' (cells + 1) (slots + cap) (pc + 3) Ls (.ref b :: st)) : Go l Z n0 R own nm code mL ret I F h cells slots pc Ls (.int n :: st) := by
  intro p e s m args below meth c T locs hx hZ ho hn hc hm hr' hk X N eT hJ
  obtain ⟨T', h', k, X', e', E', A', O', stp⟩ := Jvm.RoadKit.newR X hx hZ ho w w2 eT (g := mkF m pc Ls (.int n :: st)) rfl (hb hc hd) rfl hn0 hcap hb0 hc1 hl
  obtain ⟨s₂, v, L, h1, r⟩ := hr h' _ k rfl E' (Arv.new A' hn0) O' p e s m args below meth c T' _ hx hZ ho hn hc hm hr' hk X' N e' (hI s h' E' A'.lt hJ)
  exact ⟨s₂, v, L, stp _ h1, r⟩
theorem Go.newPE {aty : ArrayType} (ty : FieldType) (ad : String) {n : Int32} (w : (Cond.arrayClass ty).before a0 Z = true) (hty : newarray.typeOf aty = ty) (had : "[" ++ ty.toString = ad) (hd : decode code pc = .ok (.newarray aty, 2)) (hn0 : ¬ n < 0) (cap : Nat) (hcap : n.toNatClampNeg ≤ cap) (hb0 : cap * 8 ≤ 536870912) (hc1 : cells + 1 ≤ R.cells) (hl : slots + cap ≤ R.slots)
    (hI : ∀ (s : State) (h' : Heap), Ext h h' → h.size < h'.size → I s h → I' s h') (hr : ∀ (h' : Heap) (b : Addr) (k : ClassId), b = h.size → Ext h h' → Arv Z h' b k ty n [] (defaultValue ty) → Exa Z h' b ad → Go l Z n0 R own nm code mL ret I' F h' (cells + 1) (slots + cap) (pc + 2) Ls (.ref b :: st)) : Go l Z n0 R own nm code mL ret I F h cells slots pc Ls (.int n :: st) := by
  subst hty
  intro p e s m args below meth c T locs hx hZ ho hn hc hm hr' hk X N eT hJ
  obtain ⟨T', h', k, X', e', E', A', X2, stp⟩ := Jvm.RoadKit.newPE X hx hZ w eT (g := mkF m pc Ls (.int n :: st)) rfl (hb hc hd) rfl hn0 hcap hb0 hc1 hl had
  obtain ⟨s₂, v, L, h1, r⟩ := hr h' _ k rfl E' (Arv.new A' hn0) X2 p e s m args below meth c T' _ hx hZ ho hn hc hm hr' hk X' N e' (hI s h' E' A'.lt hJ)
  exact ⟨s₂, v, L, stp _ h1, r⟩
theorem Go.newRA {C : String} {ty : FieldType} {index : Nat} {n : Int32} (w : (Cond.classLink own index C).before a0 Z = true) (w2 : (Cond.arrayOver (.array ty)).before a0 Z = true) (hC : (FieldType.array ty).toString = C) (hd : decode code pc = .ok (.anewarray index, 3)) (hn0 : ¬ n < 0) (cap : Nat) (hcap : n.toNatClampNeg ≤ cap) (hb0 : cap * 8 ≤ 536870912) (hc1 : cells + 1 ≤ R.cells) (hl : slots + cap ≤ R.slots)
    (hI : ∀ (s : State) (h' : Heap), Ext h h' → h.size < h'.size → I s h → I' s h') (hr : ∀ (h' : Heap) (b : Addr) (k : ClassId), b = h.size → Ext h h' → Arv Z h' b k (.array ty) n [] .null → OvrA Z k ty C → Go l Z n0 R own nm code mL ret I' F h' (cells + 1) (slots + cap) (pc + 3) Ls (.ref b :: st)) : Go l Z n0 R own nm code mL ret I F h cells slots pc Ls (.int n :: st) := by
  intro p e s m args below meth c T locs hx hZ ho hn hc hm hr' hk X N eT hJ
  obtain ⟨T', h', k, X', e', E', A', -, O', stp⟩ := Jvm.RoadKit.newRA X hx hZ ho hC w w2 eT (g := mkF m pc Ls (.int n :: st)) rfl (hb hc hd) rfl hn0 hcap hb0 hc1 hl rfl
  obtain ⟨s₂, v, L, h1, r⟩ := hr h' _ k rfl E' (Arv.new A' hn0) O' p e s m args below meth c T' _ hx hZ ho hn hc hm hr' hk X' N e' (hI s h' E' A'.lt hJ)
  exact ⟨s₂, v, L, stp _ h1, r⟩
theorem Go.initO {idx : Nat} {a : Addr} (w1 : (Cond.methodLink own idx Lib.objectInit).before a0 Z = true) (w2 : (Cond.instanceMethod Lib.objectInit).before a0 Z = true) (w3 : (Cond.code Lib.objectInit ⟨#[0xb1]⟩ 1 none).before a0 Z = true) (hd : decode code pc = .ok (.invokespecial idx, 3)) (hsz : Ls.size = mL) (hf : 1 ≤ R.frames) (hl : (st.map fun v => v.category).sum + 12 ≤ R.locals)
    (hr : Go l Z n0 R own nm code mL ret I F h cells slots (pc + 3) Ls st) : Go l Z n0 R own nm code mL ret I F h cells slots pc Ls (.ref a :: st) :=
  Go.warm (fun {p e s m args below meth c T locs} hx hZ ho hc hm X eT => Jvm.RoadKit.initO X hx hZ ho w1 w2 w3 eT (g := mkF m pc Ls (.ref a :: st)) rfl (hsz.trans hm.symm) rfl (hb hc hd) hf (W := (st.map fun v => v.category).sum) (by show 2 * 0 + _ ≤ _; omega) hl) hr
/-! arrays -/
theorem Arv.read {Z : State} {h : Heap} {a : Addr} {k : ClassId} {ty : FieldType} {z j : Int32} {vs : List Value} {dv v : Value} (V : Arv Z h a k ty z vs dv) (q : ¬ j < 0 ∧ j < z) (u : vs.getD j.toNatClampNeg dv = v) : ∃ c : Cell, Arr Z h a c ty ∧ ¬ (j < 0 ∨ c.slots.size ≤ j.toNatClampNeg) ∧ c.slots[j.toNatClampNeg]? = some v := by
  obtain ⟨c, A, q1, S, q3, H, G⟩ := V
  have hin := inb_of S q
  exact ⟨c, A, hin, H.at hin u⟩
theorem Arv.write {Z : State} {h h' : Heap} {a : Addr} {k : ClassId} {ty : FieldType} {z j : Int32} {vs : List Value} {dv v : Value} (V : Arv Z h a k ty z vs dv) (hv : fits ty v = true) (W : Wr h h' a j.toNatClampNeg v) (i : Nat) (hj : j.toNatClampNeg = i) (hi : i < vs.length) : Arv Z h' a k ty z (vs.set i v) dv := by
  obtain ⟨c, A, q1, S, q3, H, G⟩ := V
  exact Arv.set A q1 S q3 H G hv W i hj hi
theorem Go.arraylength {a : Addr} {k : ClassId} {ty : FieldType} {z : Int32} {vs : List Value} {dv : Value} (V : Arv Z h a k ty z vs dv) (hd : decode code pc = .ok (.arraylength, 1)) (hr : Go l Z n0 R own nm code mL ret I F h cells slots (pc + 1) Ls (.int z :: st)) : Go l Z n0 R own nm code mL ret I F h cells slots pc Ls (.ref a :: st) := by
  obtain ⟨c, A, q1, S, q3, H, G⟩ := V
  exact Go.pure (fun hx hZ ho hc X eT k => X.arraylength hx (by rw [eT]; exact A.1) (State.isArrayOf_alike hZ.alike A.2.1) (g := mkF _ pc Ls _) rfl rfl (hb hc hd) _ (by rw [len_of S q3]; exact k)) hr
theorem Go.caload {a : Addr} {k : ClassId} {z j : Int32} {vs : List Value} {dv : Value} (v : Value) (V : Arv Z h a k .char z vs dv) (q : ¬ j < 0 ∧ j < z) (u : vs.getD j.toNatClampNeg dv = v) (hd : decode code pc = .ok (.caload, 1)) (hr : Go l Z n0 R own nm code mL ret I F h cells slots (pc + 1) Ls (v :: st)) : Go l Z n0 R own nm code mL ret I F h cells slots pc Ls (.int j :: .ref a :: st) := by
  obtain ⟨c, A, hin, hat⟩ := Arv.read V q u
  exact Go.pure (fun hx hZ ho hc X eT k => X.caload hx (by rw [eT]; exact A.1) (State.isArrayOf_alike hZ.alike A.2.1) A.2.2 hin hat (g := mkF _ pc Ls _) rfl rfl (hb hc hd) _ k) hr
theorem Go.iaload {a : Addr} {k : ClassId} {z j : Int32} {vs : List Value} {dv : Value} (v : Value) (V : Arv Z h a k .int z vs dv) (q : ¬ j < 0 ∧ j < z) (u : vs.getD j.toNatClampNeg dv = v) (hd : decode code pc = .ok (.iaload, 1)) (hr : Go l Z n0 R own nm code mL ret I F h cells slots (pc + 1) Ls (v :: st)) : Go l Z n0 R own nm code mL ret I F h cells slots pc Ls (.int j :: .ref a :: st) := by
  obtain ⟨c, A, hin, hat⟩ := Arv.read V q u
  exact Go.pure (fun hx hZ ho hc X eT k => X.iaload hx (by rw [eT]; exact A.1) (State.isArrayOf_alike hZ.alike A.2.1) A.2.2 hin hat (g := mkF _ pc Ls _) rfl rfl (hb hc hd) _ k) hr
theorem Go.baload {a : Addr} {k : ClassId} {z j : Int32} {vs : List Value} {dv : Value} (v : Value) (V : Arv Z h a k .byte z vs dv) (q : ¬ j < 0 ∧ j < z) (u : vs.getD j.toNatClampNeg dv = v) (hd : decode code pc = .ok (.baload, 1)) (hr : Go l Z n0 R own nm code mL ret I F h cells slots (pc + 1) Ls (v :: st)) : Go l Z n0 R own nm code mL ret I F h cells slots pc Ls (.int j :: .ref a :: st) := by
  obtain ⟨c, A, hin, hat⟩ := Arv.read V q u
  exact Go.pure (fun hx hZ ho hc X eT k => X.baloadBytes hx (by rw [eT]; exact A.1) (State.isArrayOf_alike hZ.alike A.2.1) A.2.2 hin hat (g := mkF _ pc Ls _) rfl rfl (hb hc hd) _ k) hr
theorem Go.aaload {a : Addr} {k : ClassId} {ty : FieldType} {z j : Int32} {vs : List Value} {dv : Value} (v : Value) (V : Arv Z h a k ty z vs dv) (hty : ty.isReference = true) (q : ¬ j < 0 ∧ j < z) (u : vs.getD j.toNatClampNeg dv = v) (hd : decode code pc = .ok (.aaload, 1)) (hr : Go l Z n0 R own nm code mL ret I F h cells slots (pc + 1) Ls (v :: st)) : Go l Z n0 R own nm code mL ret I F h cells slots pc Ls (.int j :: .ref a :: st) := by
  obtain ⟨c, A, hin, hat⟩ := Arv.read V q u
  exact Go.pure (fun hx hZ ho hc X eT k => X.aaload hx (by rw [eT]; exact A.1) (State.isArrayOf_alike hZ.alike A.2.1) hty A.2.2 hin hat (g := mkF _ pc Ls _) rfl rfl (hb hc hd) _ k) hr
theorem Go.aaloadC {a : Addr} {c0 : Cell} {ty : FieldType} {j : Int32} (v : Value) (A : Arr Z h a c0 ty) (hty : ty.isReference = true) (hin : ¬ (j < 0 ∨ c0.slots.size ≤ j.toNatClampNeg)) (hat : c0.slots[j.toNatClampNeg]? = some v) (hd : decode code pc = .ok (.aaload, 1)) (hr : Go l Z n0 R own nm code mL ret I F h cells slots (pc + 1) Ls (v :: st)) : Go l Z n0 R own nm code mL ret I F h cells slots pc Ls (.int j :: .ref a :: st) :=
  Go.pure (fun hx hZ ho hc X eT k => X.aaload hx (by rw [eT]; exact A.1) (State.isArrayOf_alike hZ.alike A.2.1) hty A.2.2 hin hat (g := mkF _ pc Ls _) rfl rfl (hb hc hd) _ k) hr
theorem Go.castore {a : Addr} {k : ClassId} {z j x : Int32} {vs : List Value} {dv : Value} (V : Arv Z h a k .char z vs dv) (q : ¬ j < 0 ∧ j < z) (g : n0 ≤ a) (i : Nat) (hj : j.toNatClampNeg = i) (hi : i < vs.length) (hd : decode code pc = .ok (.castore, 1)) (hI : ∀ (s : State) (h' : Heap), Keep h h' [a] → I s h → I' s h') (hr : ∀ h', Keep h h' [a] → Arv Z h' a k .char z (vs.set i (.int (nar .char x))) dv → Go l Z n0 R own nm code mL ret I' F h' cells slots (pc + 1) Ls st) : Go l Z n0 R own nm code mL ret I F h cells slots pc Ls (.int x :: .int j :: .ref a :: st) := by
  have V0 := V
  obtain ⟨c0, A, q1, S, q3, H, G⟩ := V0
  intro p e s m args below meth c T locs hx hZ ho hn hc hm hr' hk X N eT hJ
  obtain ⟨T', h', X', e', W', stp⟩ := stC X hx hZ eT A (inb_of S q) (g := mkF m pc Ls (.int x :: .int j :: .ref a :: st)) rfl rfl (hb hc hd)
  obtain ⟨s₂, v, L, h1, r⟩ := hr h' (Keep.of_wr W') (Arv.write V (fits_nar_char _) W' i hj hi) p e s m args below meth c T' _ hx hZ ho hn hc hm hr' hk X' (Fr.snoc X' N g) e' (hI s h' (Keep.of_wr W') hJ)
  exact ⟨s₂, v, L, stp _ h1, r⟩
theorem Go.bastore {a : Addr} {k : ClassId} {z j x : Int32} {vs : List Value} {dv : Value} (V : Arv Z h a k .byte z vs dv) (q : ¬ j < 0 ∧ j < z) (g : n0 ≤ a) (i : Nat) (hj : j.toNatClampNeg = i) (hi : i < vs.length) (hd : decode code pc = .ok (.bastore, 1)) (hI : ∀ (s : State) (h' : Heap), Keep h h' [a] → I s h → I' s h') (hr : ∀ h', Keep h h' [a] → Arv Z h' a k .byte z (vs.set i (.int (nar .byte x))) dv → Go l Z n0 R own nm code mL ret I' F h' cells slots (pc + 1) Ls st) : Go l Z n0 R own nm code mL ret I F h cells slots pc Ls (.int x :: .int j :: .ref a :: st) := by
  have V0 := V
  obtain ⟨c0, A, q1, S, q3, H, G⟩ := V0
  intro p e s m args below meth c T locs hx hZ ho hn hc hm hr' hk X N eT hJ
  obtain ⟨T', h', X', e', W', stp⟩ := stB X hx hZ eT A (inb_of S q) (g := mkF m pc Ls (.int x :: .int j :: .ref a :: st)) rfl rfl (hb hc hd)
  obtain ⟨s₂, v, L, h1, r⟩ := hr h' (Keep.of_wr W') (Arv.write V (fits_nar_byte _) W' i hj hi) p e s m args below meth c T' _ hx hZ ho hn hc hm hr' hk X' (Fr.snoc X' N g) e' (hI s h' (Keep.of_wr W') hJ)
  exact ⟨s₂, v, L, stp _ h1, r⟩
theorem Go.iastore {a : Addr} {k : ClassId} {z j x : Int32} {vs : List Value} {dv : Value} (V : Arv Z h a k .int z vs dv) (q : ¬ j < 0 ∧ j < z) (g : n0 ≤ a) (i : Nat) (hj : j.toNatClampNeg = i) (hi : i < vs.length) (hd : decode code pc = .ok (.iastore, 1)) (hI : ∀ (s : State) (h' : Heap), Keep h h' [a] → I s h → I' s h') (hr : ∀ h', Keep h h' [a] → Arv Z h' a k .int z (vs.set i (.int x)) dv → Go l Z n0 R own nm code mL ret I' F h' cells slots (pc + 1) Ls st) : Go l Z n0 R own nm code mL ret I F h cells slots pc Ls (.int x :: .int j :: .ref a :: st) := by
  have V0 := V
  obtain ⟨c0, A, q1, S, q3, H, G⟩ := V0
  intro p e s m args below meth c T locs hx hZ ho hn hc hm hr' hk X N eT hJ
  obtain ⟨T', h', X', e', W', stp⟩ := stI X hx hZ eT A (inb_of S q) (g := mkF m pc Ls (.int x :: .int j :: .ref a :: st)) rfl rfl (hb hc hd)
  obtain ⟨s₂, v, L, h1, r⟩ := hr h' (Keep.of_wr W') (Arv.write V rfl W' i hj hi) p e s m args below meth c T' _ hx hZ ho hn hc hm hr' hk X' (Fr.snoc X' N g) e' (hI s h' (Keep.of_wr W') hJ)
  exact ⟨s₂, v, L, stp _ h1, r⟩
theorem Go.aastore {a : Addr} {k : ClassId} {ty : FieldType} {z j : Int32} {x : Value} {vs : List Value} {dv : Value} (V : Arv Z h a k ty z vs dv) (hty : ty.isReference = true) (hx' : fits ty x = true) (FF : ∀ c : Cell, Arr Z h a c ty → c.cls = k → Sto Z h a x) (q : ¬ j < 0 ∧ j < z) (g : n0 ≤ a) (i : Nat) (hj : j.toNatClampNeg = i) (hi : i < vs.length) (hd : decode code pc = .ok (.aastore, 1)) (hI : ∀ (s : State) (h' : Heap), Keep h h' [a] → I s h → I' s h') (hr : ∀ h', Keep h h' [a] → Arv Z h' a k ty z (vs.set i x) dv → Go l Z n0 R own nm code mL ret I' F h' cells slots (pc + 1) Ls st) : Go l Z n0 R own nm code mL ret I F h cells slots pc Ls (x :: .int j :: .ref a :: st) := by
  have V0 := V
  obtain ⟨c0, A, q1, S, q3, H, G⟩ := V0
  intro p e s m args below meth c T locs hx hZ ho hn hc hm hr' hk X N eT hJ
  obtain ⟨T', h', X', e', W', stp⟩ := stR X hx hZ eT A (inb_of S q) hty (FF c0 A q1) (g := mkF m pc Ls (x :: .int j :: .ref a :: st)) rfl rfl (hb hc hd)
  obtain ⟨s₂, v, L, h1, r⟩ := hr h' (Keep.of_wr W') (Arv.write V hx' W' i hj hi) p e s m args below meth c T' _ hx hZ ho hn hc hm hr' hk X' (Fr.snoc X' N g) e' (hI s h' (Keep.of_wr W') hJ)
  exact ⟨s₂, v, L, stp _ h1, r⟩
/-! casts -/
theorem Go.castY {K : String} {index : Nat} {a : Addr} (w : (Cond.classLink own index K).before a0 Z = true) (FF : Ins Z h a K true) (hd : decode code pc = .ok (.checkcast index, 3)) (hr : Go l Z n0 R own nm code mL ret I F h cells slots (pc + 3) Ls (.ref a :: st)) : Go l Z n0 R own nm code mL ret I F h cells slots pc Ls (.ref a :: st) :=
  Go.warm (fun hx hZ ho hc _ X eT => Jvm.RoadKit.castY X hx hZ ho w eT FF (g := mkF _ pc Ls (.ref a :: st)) rfl rfl (hb hc hd)) hr
theorem Go.castNull {index : Nat} (hd : decode code pc = .ok (.checkcast index, 3)) (hr : Go l Z n0 R own nm code mL ret I F h cells slots (pc + 3) Ls (.null :: st)) : Go l Z n0 R own nm code mL ret I F h cells slots pc Ls (.null :: st) :=
  Go.pure (fun hx _ _ hc X _ k => X.checkcastNull hx (g := mkF _ pc Ls (.null :: st)) rfl rfl (hb hc hd) _ k) hr
theorem Go.castV {K : String} {index : Nat} {v : Value} (w : (Cond.classLink own index K).before a0 Z = true) (FF : v = .null ∨ ∃ a, v = .ref a ∧ Ins Z h a K true) (hd : decode code pc = .ok (.checkcast index, 3)) (hr : Go l Z n0 R own nm code mL ret I F h cells slots (pc + 3) Ls (v :: st)) : Go l Z n0 R own nm code mL ret I F h cells slots pc Ls (v :: st) := by
  rcases FF with rfl | ⟨a, rfl, I0⟩
  · exact Go.castNull hd hr
  · exact Go.castY w I0 hd hr
theorem Go.instY {K : String} {index : Nat} {a : Addr} (w : (Cond.classLink own index K).before a0 Z = true) (FF : Ins Z h a K true) (hd : decode code pc = .ok (.instanceof index, 3)) (hr : Go l Z n0 R own nm code mL ret I F h cells slots (pc + 3) Ls (.int 1 :: st)) : Go l Z n0 R own nm code mL ret I F h cells slots pc Ls (.ref a :: st) :=
  Go.warm (fun hx hZ ho hc _ X eT => Jvm.RoadKit.instY X hx hZ ho w eT FF (g := mkF _ pc Ls (.ref a :: st)) rfl rfl (hb hc hd)) hr
/-! returns -/
theorem Go.return_ (hd : decode code pc = .ok (.return_, 1)) (hret : ret = none) (hc1 : cells ≤ R.cells) (hs1 : slots ≤ R.slots) (hQ : Q none h) : Go l Z n0 R own nm code mL ret I (FN n0 R Q) h cells slots pc Ls [] := by
  intro p e s m args below meth c T locs hx hZ ho hn hc hm hr' hk X N eT hJ
  obtain ⟨fs, hr, hrun, hended, hW, hsame⟩ := X.leave (v := none) (fun _ => rfl) hk
  exact ⟨_, none, locs, X.returnOut hx (hr'.trans hret) (hb hc hd) hr, hrun, hended, N, (by show Q _ T.heap; rw [eT]; exact hQ), ⟨_, rfl⟩, hW, hsame.mono hc1 hs1⟩
theorem Go.areturn {v : Value} {t : FieldType} (hd : decode code pc = .ok (.areturn, 1)) (hret : ret = some t) (ht : t.isReference = true) (hv : v.isRef = true) (hc1 : cells ≤ R.cells) (hs1 : slots ≤ R.slots) (hQ : Q (some v) h) : Go l Z n0 R own nm code mL ret I (FN n0 R Q) h cells slots pc Ls (v :: st) := by
  intro p e s m args below meth c T locs hx hZ ho hn hc hm hr' hk X N eT hJ
  obtain ⟨fs, hr, hrun, hended, hW, hsame⟩ := X.leave (v := some v) (fun h => by rw [hr', hret] at h; cases h) hk
  have hnw : narrow t v = v := by cases t <;> first | rfl | (cases ht; done)
  exact ⟨_, some v, locs, retOut X hx (hr'.trans hret) hnw (Or.inr (Or.inr (Or.inr (Or.inr ⟨rfl, ht, hv⟩)))) (hb hc hd) hr, hrun, hended, N, (by show Q _ T.heap; rw [eT]; exact hQ), ⟨_, rfl⟩, hW, hsame.mono hc1 hs1⟩
theorem Go.ireturn {z : Int32} (hd : decode code pc = .ok (.ireturn, 1)) (hret : ret = some .int) (hc1 : cells ≤ R.cells) (hs1 : slots ≤ R.slots) (hQ : Q (some (.int z)) h) : Go l Z n0 R own nm code mL ret I (FN n0 R Q) h cells slots pc Ls (.int z :: st) := by
  intro p e s m args below meth c T locs hx hZ ho hn hc hm hr' hk X N eT hJ
  obtain ⟨fs, hr, hrun, hended, hW, hsame⟩ := X.leave (v := some (.int z)) (fun h => by rw [hr', hret] at h; cases h) hk
  exact ⟨_, some (.int z), locs, retOut X hx (hr'.trans hret) rfl (Or.inl ⟨rfl, Or.inl rfl, z, rfl⟩) (hb hc hd) hr, hrun, hended, N, (by show Q _ T.heap; rw [eT]; exact hQ), ⟨_, rfl⟩, hW, hsame.mono hc1 hs1⟩
/-- a boolean, byte, char or short -/
theorem Go.nreturn {z : Int32} (t : FieldType) (hd : decode code pc = .ok (.ireturn, 1)) (hret : ret = some t) (ht : t = .boolean ∨ t = .byte ∨ t = .char ∨ t = .short) (hc1 : cells ≤ R.cells) (hs1 : slots ≤ R.slots) (hQ : Q (some (.int (nar t z))) h) : Go l Z n0 R own nm code mL ret I (FN n0 R Q) h cells slots pc Ls (.int z :: st) := by
  intro p e s m args below meth c T locs hx hZ ho hn hc hm hr' hk X N eT hJ
  obtain ⟨fs, hr, hrun, hended, hW, hsame⟩ := X.leave (v := some (.int (nar t z))) (fun h => by rw [hr', hret] at h; cases h) hk
  exact ⟨_, some (.int (nar t z)), locs, retN X hx (hr'.trans hret) ht (hb hc hd) hr, hrun, hended, N, (by show Q _ T.heap; rw [eT]; exact hQ), ⟨_, rfl⟩, hW, hsame.mono hc1 hs1⟩
/-! calls, each by the callee's contract -/
theorem Go.callS {o' n' d' : String} {bytes : ByteArray} {mL' index : Nat} {rt : Option FieldType} {rm : Room} (as' rest : List Value) {Q' : Option Value → Heap → Prop} {ps : List FieldType} {r : Option FieldType}
    (hC : Ct l Z n0 o' n' d' [] bytes mL' rt rm as'.toArray h Q') (w1 : (Cond.methodLink own index (⟨o', n', d'⟩ : MethodName)).before a0 Z = true) (w2 : (Cond.static (⟨o', n', d'⟩ : MethodName)).before a0 Z = true) (w3 : (Cond.initialized o').before a0 Z = true) (w4 : (Cond.code (⟨o', n', d'⟩ : MethodName) bytes mL' rt).before a0 Z = true)
    (hy : o' ≠ "java/lang/invoke/MethodHandle" ∧ o' ≠ "java/lang/invoke/VarHandle") (hpd : parseMethodDescriptor d' = some ⟨ps, r⟩) (hlen : as'.length = ps.length) (hst : st = as'.reverse ++ rest) (hsz : Ls.size = mL) (hf : rm.frames + 1 ≤ R.frames) (hlo : (rest.map fun v => v.category).sum + (mL' + 11) + rm.locals ≤ R.locals) (hc1 : cells + rm.cells ≤ R.cells) (hs1 : slots + rm.slots ≤ R.slots)
    (hd : decode code pc = .ok (.invokestatic index, 3)) (hI : ∀ (v : Option Value) (s : State) (h' : Heap), Q' v h' → I s h → I' s h') (hr : ∀ v h', Q' v h' → Go l Z n0 R own nm code mL ret I' F h' (cells + rm.cells) (slots + rm.slots) (pc + 3) Ls (v.toList ++ rest)) : Go l Z n0 R own nm code mL ret I F h cells slots pc Ls st := by
  intro p e s m args below meth c T locs hx hZ ho hn hc hm hr' hk X N eT hJ
  obtain ⟨v, _, ⟨T', L', k', n''⟩, -, X', ⟨Lc, ⟨N', hQ'⟩, l1, l2, l3⟩, stp⟩ := Jvm.LawKit.callS X hx (y := (⟨o', n', d'⟩ : MethodName)) ho (mvT hZ w1) (mvT hZ w2) (mvT hZ w3) (mvT hZ w4) hy (backOf (Q := fun v h L => Fr n0 L ∧ Q' v h) (W := (rest.map fun v => v.category).sum) hC hZ w4 w3 hf hlo) (g := mkF m pc Ls st) rfl (hsz.trans hm.symm) (argsL := as') (rest := rest) (lenOf hpd hlen) hst (by show 2 * 0 + _ ≤ _; omega) (hb hc hd) (fun _ _ => ⟨rfl, eT, hc1, hs1⟩)
  dsimp only [Pt.U, Pt.locs, Pt.cells, Pt.slots] at X' l1 l2 l3 stp hQ'
  subst l1 l2 l3
  obtain ⟨s₂, v2, L, h1, r⟩ := hr v T'.heap hQ' p e s m args below meth c T' _ hx hZ ho hn hc hm hr' hk X' (Fr.app N N') rfl (hI v s T'.heap hQ' hJ)
  exact ⟨s₂, v2, L, stp _ h1, r⟩
/-- a constructor -/
theorem Go.callI {o' d' : String} {bytes : ByteArray} {mL' index : Nat} {rm : Room} (a : Addr) (as' rest : List Value) {Q' : Option Value → Heap → Prop} {ps : List FieldType} {r : Option FieldType}
    (hC : Ct l Z n0 o' "<init>" d' [] bytes mL' none rm (.ref a :: as').toArray h Q') (w1 : (Cond.methodLink own index (⟨o', "<init>", d'⟩ : MethodName)).before a0 Z = true) (w2 : (Cond.instanceMethod (⟨o', "<init>", d'⟩ : MethodName)).before a0 Z = true) (w3 : (Cond.initialized o').before a0 Z = true) (w4 : (Cond.code (⟨o', "<init>", d'⟩ : MethodName) bytes mL' none).before a0 Z = true)
    (hy : o' ≠ "java/lang/invoke/MethodHandle" ∧ o' ≠ "java/lang/invoke/VarHandle") (hpd : parseMethodDescriptor d' = some ⟨ps, r⟩) (hlen : as'.length = ps.length) (hst : st = as'.reverse ++ .ref a :: rest) (hsz : Ls.size = mL) (hf : rm.frames + 1 ≤ R.frames) (hlo : (rest.map fun v => v.category).sum + (mL' + 11) + rm.locals ≤ R.locals) (hc1 : cells + rm.cells ≤ R.cells) (hs1 : slots + rm.slots ≤ R.slots)
    (hd : decode code pc = .ok (.invokespecial index, 3)) (hI : ∀ (v : Option Value) (s : State) (h' : Heap), Q' v h' → I s h → I' s h') (hr : ∀ v h', Q' v h' → Go l Z n0 R own nm code mL ret I' F h' (cells + rm.cells) (slots + rm.slots) (pc + 3) Ls (v.toList ++ rest)) : Go l Z n0 R own nm code mL ret I F h cells slots pc Ls st := by
  intro p e s m args below meth c T locs hx hZ ho hn hc hm hr' hk X N eT hJ
  obtain ⟨v, _, ⟨T', L', k', n''⟩, -, X', ⟨Lc, ⟨N', hQ'⟩, l1, l2, l3⟩, stp⟩ := X.specialBack hx (y := (⟨o', "<init>", d'⟩ : MethodName)) rfl ho (mvT hZ w1) (mvT hZ w2) (mvT hZ w4) hy (backOf (Q := fun v h L => Fr n0 L ∧ Q' v h) (W := (rest.map fun v => v.category).sum) hC hZ w4 w3 hf hlo) (g := mkF m pc Ls st) rfl (hsz.trans hm.symm) (Steps.refl _) (a := a) (argsL := as') (rest := rest) (lenOf hpd hlen) hst (by show 2 * 0 + _ ≤ _; omega) (hb hc hd) (fun _ _ => ⟨rfl, eT, hc1, hs1⟩)
  dsimp only [Pt.U, Pt.locs, Pt.cells, Pt.slots] at X' l1 l2 l3 stp hQ'
  subst l1 l2 l3
  obtain ⟨s₂, v2, L, h1, r⟩ := hr v T'.heap hQ' p e s m args below meth c T' _ hx hZ ho hn hc hm hr' hk X' (Fr.app N N') rfl (hI v s T'.heap hQ' hJ)
  exact ⟨s₂, v2, L, stp.trans h1, r⟩
/-- an instance method that the class which the link names declares -/
theorem Go.callV {o' n' d' C oz : String} {bytes : ByteArray} {mL' index : Nat} {rt : Option FieldType} {rm : Room} (a : Addr) (as' rest : List Value) {Q' : Option Value → Heap → Prop} {ps : List FieldType} {r : Option FieldType}
    (hC : Ct l Z n0 oz n' d' [] bytes mL' rt rm (.ref a :: as').toArray h Q') (E : Exa Z h a C) (w1 : (Cond.methodLink own index (⟨o', n', d'⟩ : MethodName)).before a0 Z = true) (w2 : (Cond.declares (⟨o', n', d'⟩ : MethodName)).before a0 Z = true) (nf : ∀ s : State, Z.Warmed39 s.vm → NotFace s (⟨o', n', d'⟩ : MethodName)) (w3 : (Cond.selects C (⟨o', n', d'⟩ : MethodName) (⟨oz, n', d'⟩ : MethodName)).before a0 Z = true) (w4 : (Cond.instanceMethod (⟨oz, n', d'⟩ : MethodName)).before a0 Z = true) (w5 : (Cond.initialized oz).before a0 Z = true) (w6 : (Cond.code (⟨oz, n', d'⟩ : MethodName) bytes mL' rt).before a0 Z = true)
    (hy : o' ≠ "java/lang/invoke/MethodHandle" ∧ o' ≠ "java/lang/invoke/VarHandle") (hpd : parseMethodDescriptor d' = some ⟨ps, r⟩) (hlen : as'.length = ps.length) (hst : st = as'.reverse ++ .ref a :: rest) (hsz : Ls.size = mL) (hf : rm.frames + 1 ≤ R.frames) (hlo : (rest.map fun v => v.category).sum + (mL' + 11) + rm.locals ≤ R.locals) (hc1 : cells + rm.cells ≤ R.cells) (hs1 : slots + rm.slots ≤ R.slots)
    (hd : decode code pc = .ok (.invokevirtual index, 3)) (hI : ∀ (v : Option Value) (s : State) (h' : Heap), Q' v h' → I s h → I' s h') (hr : ∀ v h', Q' v h' → Go l Z n0 R own nm code mL ret I' F h' (cells + rm.cells) (slots + rm.slots) (pc + 3) Ls (v.toList ++ rest)) : Go l Z n0 R own nm code mL ret I F h cells slots pc Ls st := by
  intro p e s m args below meth c T locs hx hZ ho hn hc hm hr' hk X N eT hJ
  obtain ⟨cq, kq, qa, qb, qc⟩ := isOf hZ eT E
  obtain ⟨v, _, ⟨T', L', k', n''⟩, -, X', ⟨Lc, ⟨N', hQ'⟩, l1, l2, l3⟩, stp⟩ := X.virtualBack hx (y := (⟨o', n', d'⟩ : MethodName)) (z := (⟨oz, n', d'⟩ : MethodName)) ho (mvT hZ w1) (mvT hZ w2) (nf s hZ) (mvT hZ w3) (mvT hZ w4) hy (backOf (Q := fun v h L => Fr n0 L ∧ Q' v h) (W := (rest.map fun v => v.category).sum) hC hZ w6 w5 hf hlo) qa qc (g := mkF m pc Ls st) rfl (hsz.trans hm.symm) (Steps.refl _) (argsL := as') (rest := rest) (lenOf hpd hlen) hst (by show 2 * 0 + _ ≤ _; omega) (hb hc hd) (fun _ _ => ⟨rfl, eT, hc1, hs1⟩)
  dsimp only [Pt.U, Pt.locs, Pt.cells, Pt.slots] at X' l1 l2 l3 stp hQ'
  subst l1 l2 l3
  obtain ⟨s₂, v2, L, h1, r⟩ := hr v T'.heap hQ' p e s m args below meth c T' _ hx hZ ho hn hc hm hr' hk X' (Fr.app N N') rfl (hI v s T'.heap hQ' hJ)
  exact ⟨s₂, v2, L, stp.trans h1, r⟩
theorem nf_sel {C o' n' d' : String} (w3 : (Cond.selects C (⟨o', n', d'⟩ : MethodName) (⟨o', n', d'⟩ : MethodName)).before a0 Z = true) : ∀ s : State, Z.Warmed39 s.vm → NotFace s (⟨o', n', d'⟩ : MethodName) := fun s hZ => notFace_of_selects (args := #[]) (mvT hZ w3)
theorem nf_sup {o' n' d' S : String} (w : (Cond.superclass o' S).before a0 Z = true) : ∀ s : State, Z.Warmed39 s.vm → NotFace s (⟨o', n', d'⟩ : MethodName) := fun s hZ => nf_super (args := #[]) (mvT hZ w)
/-- an instance method that a superclass of the class which the link names declares -/
theorem Go.callU {o' ow n' d' C oz : String} {bytes : ByteArray} {mL' index : Nat} {rt : Option FieldType} {rm : Room} (a : Addr) (as' rest : List Value) {Q' : Option Value → Heap → Prop} {ps : List FieldType} {r : Option FieldType}
    (hC : Ct l Z n0 oz n' d' [] bytes mL' rt rm (.ref a :: as').toArray h Q') (E : Exa Z h a C) (w1 : (Cond.methodLink own index (⟨o', n', d'⟩ : MethodName)).before a0 Z = true) (w2 : (Cond.sameMethod o' ow n' d').before a0 Z = true) (w2' : (Cond.declares (⟨ow, n', d'⟩ : MethodName)).before a0 Z = true) (w3 : (Cond.selects C (⟨o', n', d'⟩ : MethodName) (⟨oz, n', d'⟩ : MethodName)).before a0 Z = true) (w4 : (Cond.instanceMethod (⟨oz, n', d'⟩ : MethodName)).before a0 Z = true) (w5 : (Cond.initialized oz).before a0 Z = true) (w6 : (Cond.code (⟨oz, n', d'⟩ : MethodName) bytes mL' rt).before a0 Z = true)
    (hy : ow ≠ "java/lang/invoke/MethodHandle" ∧ ow ≠ "java/lang/invoke/VarHandle") (hpd : parseMethodDescriptor d' = some ⟨ps, r⟩) (hlen : as'.length = ps.length) (hst : st = as'.reverse ++ .ref a :: rest) (hsz : Ls.size = mL) (hf : rm.frames + 1 ≤ R.frames) (hlo : (rest.map fun v => v.category).sum + (mL' + 11) + rm.locals ≤ R.locals) (hc1 : cells + rm.cells ≤ R.cells) (hs1 : slots + rm.slots ≤ R.slots)
    (hd : decode code pc = .ok (.invokevirtual index, 3)) (hI : ∀ (v : Option Value) (s : State) (h' : Heap), Q' v h' → I s h → I' s h') (hr : ∀ v h', Q' v h' → Go l Z n0 R own nm code mL ret I' F h' (cells + rm.cells) (slots + rm.slots) (pc + 3) Ls (v.toList ++ rest)) : Go l Z n0 R own nm code mL ret I F h cells slots pc Ls st := by
  intro p e s m args below meth c T locs hx hZ ho hn hc hm hr' hk X N eT hJ
  obtain ⟨cq, kq, qa, qb, qc⟩ := isOf hZ eT E
  obtain ⟨v, _, ⟨T', L', k', n''⟩, -, X', ⟨Lc, ⟨N', hQ'⟩, l1, l2, l3⟩, stp⟩ := X.virtualBackUp hx (x := (⟨o', n', d'⟩ : MethodName)) (y := (⟨oz, n', d'⟩ : MethodName)) ho (mvT hZ w1) (mvT hZ w2) (mvT hZ w2') hy (mvT hZ w3) (mvT hZ w4) (backOf (Q := fun v h L => Fr n0 L ∧ Q' v h) (W := (rest.map fun v => v.category).sum) hC hZ w6 w5 hf hlo) qa qc (g := mkF m pc Ls st) rfl (hsz.trans hm.symm) (Steps.refl _) (argsL := as') (rest := rest) (lenOf hpd hlen) hst (by show 2 * 0 + _ ≤ _; omega) (hb hc hd) (fun _ _ => ⟨rfl, eT, hc1, hs1⟩)
  dsimp only [Pt.U, Pt.locs, Pt.cells, Pt.slots] at X' l1 l2 l3 stp hQ'
  subst l1 l2 l3
  obtain ⟨s₂, v2, L, h1, r⟩ := hr v T'.heap hQ' p e s m args below meth c T' _ hx hZ ho hn hc hm hr' hk X' (Fr.app N N') rfl (hI v s T'.heap hQ' hJ)
  exact ⟨s₂, v2, L, stp.trans h1, r⟩
/-- a private instance method, by invokevirtual -/
theorem Go.callP {o' n' d' : String} {bytes : ByteArray} {mL' index : Nat} {rt : Option FieldType} {rm : Room} (a : Addr) (as' rest : List Value) {Q' : Option Value → Heap → Prop} {ps : List FieldType} {r : Option FieldType} {C : String}
    (hC : Ct l Z n0 o' n' d' [] bytes mL' rt rm (.ref a :: as').toArray h Q') (E : Exa Z h a C) (w1 : (Cond.methodLink own index (⟨o', n', d'⟩ : MethodName)).before a0 Z = true) (w2 : (Cond.instanceMethod (⟨o', n', d'⟩ : MethodName)).before a0 Z = true) (w3 : (Cond.selects o' (⟨o', n', d'⟩ : MethodName) (⟨o', n', d'⟩ : MethodName)).before a0 Z = true) (w4 : (Cond.privateMethod (⟨o', n', d'⟩ : MethodName)).before a0 Z = true) (w5 : (Cond.initialized o').before a0 Z = true) (w6 : (Cond.code (⟨o', n', d'⟩ : MethodName) bytes mL' rt).before a0 Z = true)
    (hy : o' ≠ "java/lang/invoke/MethodHandle" ∧ o' ≠ "java/lang/invoke/VarHandle") (hpd : parseMethodDescriptor d' = some ⟨ps, r⟩) (hlen : as'.length = ps.length) (hst : st = as'.reverse ++ .ref a :: rest) (hsz : Ls.size = mL) (hf : rm.frames + 1 ≤ R.frames) (hlo : (rest.map fun v => v.category).sum + (mL' + 11) + rm.locals ≤ R.locals) (hc1 : cells + rm.cells ≤ R.cells) (hs1 : slots + rm.slots ≤ R.slots)
    (hd : decode code pc = .ok (.invokevirtual index, 3)) (hI : ∀ (v : Option Value) (s : State) (h' : Heap), Q' v h' → I s h → I' s h') (hr : ∀ v h', Q' v h' → Go l Z n0 R own nm code mL ret I' F h' (cells + rm.cells) (slots + rm.slots) (pc + 3) Ls (v.toList ++ rest)) : Go l Z n0 R own nm code mL ret I F h cells slots pc Ls st := by
  intro p e s m args below meth c T locs hx hZ ho hn hc hm hr' hk X N eT hJ
  obtain ⟨cq, qa, qb⟩ := E.cell
  obtain ⟨v, _, ⟨T', L', k', n''⟩, -, X', ⟨Lc, ⟨N', hQ'⟩, l1, l2, l3⟩, stp⟩ := X.privateBack hx (y := (⟨o', n', d'⟩ : MethodName)) ho (mvT hZ w1) (mvT hZ w2) (mvT hZ w3) (Cond.privateMethod_at (mvP hZ w4 (args := #[]))) (mvT hZ w6) hy (backOf (Q := fun v h L => Fr n0 L ∧ Q' v h) (W := (rest.map fun v => v.category).sum) hC hZ w6 w5 hf hlo) (g := mkF m pc Ls st) rfl (hsz.trans hm.symm) (Steps.refl _) (a := a) (by rw [eT]; exact qa) qb (argsL := as') (rest := rest) (lenOf hpd hlen) hst (by show 2 * 0 + _ ≤ _; omega) (hb hc hd) (fun _ _ => ⟨rfl, eT, hc1, hs1⟩)
  dsimp only [Pt.U, Pt.locs, Pt.cells, Pt.slots] at X' l1 l2 l3 stp hQ'
  subst l1 l2 l3
  obtain ⟨s₂, v2, L, h1, r⟩ := hr v T'.heap hQ' p e s m args below meth c T' _ hx hZ ho hn hc hm hr' hk X' (Fr.app N N') rfl (hI v s T'.heap hQ' hJ)
  exact ⟨s₂, v2, L, stp.trans h1, r⟩
/-- an interface's method -/
theorem Go.callF {o' n' d' C oz : String} {bytes : ByteArray} {mL' index count : Nat} {rt : Option FieldType} {rm : Room} (a : Addr) (as' rest : List Value) {Q' : Option Value → Heap → Prop} {ps : List FieldType} {r : Option FieldType}
    (hC : Ct l Z n0 oz n' d' [] bytes mL' rt rm (.ref a :: as').toArray h Q') (E : Exa Z h a C) (w1 : (Cond.methodLink own index (⟨o', n', d'⟩ : MethodName)).before a0 Z = true) (w2 : (Cond.declares (⟨o', n', d'⟩ : MethodName)).before a0 Z = true) (w2' : (Cond.interfaceMethod o' o' n' d').before a0 Z = true) (w3 : (Cond.selects C (⟨o', n', d'⟩ : MethodName) (⟨oz, n', d'⟩ : MethodName)).before a0 Z = true) (w4 : (Cond.instanceMethod (⟨oz, n', d'⟩ : MethodName)).before a0 Z = true) (w4' : (Cond.publicMethod (⟨oz, n', d'⟩ : MethodName)).before a0 Z = true) (w4'' : (Cond.unhidden C n' d').before a0 Z = true) (wc : (Cond.castable C o').before a0 Z = true) (w5 : (Cond.initialized oz).before a0 Z = true) (w6 : (Cond.code (⟨oz, n', d'⟩ : MethodName) bytes mL' rt).before a0 Z = true)
    (hy : o' ≠ "java/lang/invoke/MethodHandle" ∧ o' ≠ "java/lang/invoke/VarHandle") (hpd : parseMethodDescriptor d' = some ⟨ps, r⟩) (hlen : as'.length = ps.length) (hst : st = as'.reverse ++ .ref a :: rest) (hsz : Ls.size = mL) (hf : rm.frames + 1 ≤ R.frames) (hlo : (rest.map fun v => v.category).sum + (mL' + 11) + rm.locals ≤ R.locals) (hc1 : cells + rm.cells ≤ R.cells) (hs1 : slots + rm.slots ≤ R.slots)
    (hd : decode code pc = .ok (.invokeinterface index count, 5)) (hI : ∀ (v : Option Value) (s : State) (h' : Heap), Q' v h' → I s h → I' s h') (hr : ∀ v h', Q' v h' → Go l Z n0 R own nm code mL ret I' F h' (cells + rm.cells) (slots + rm.slots) (pc + 5) Ls (v.toList ++ rest)) : Go l Z n0 R own nm code mL ret I F h cells slots pc Ls st := by
  intro p e s m args below meth c T locs hx hZ ho hn hc hm hr' hk X N eT hJ
  obtain ⟨cq, kq, qa, qb, qc⟩ := isOf hZ eT E
  obtain ⟨v, _, ⟨T', L', k', n''⟩, -, X', ⟨Lc, ⟨N', hQ'⟩, l1, l2, l3⟩, stp⟩ := X.interfaceBack hx (xi := (⟨o', n', d'⟩ : MethodName)) (y := (⟨oz, n', d'⟩ : MethodName)) ho (mvT hZ w1) (mvT hZ w2) (mvT hZ w2' (by simp [Cond.onTables, Cond.keepsFace, Cond.keeps, Cond.steady, Cond.faceAtom, hy.1, hy.2])) (mvT hZ w3) (mvT hZ w4) (mvT hZ w4') (mvT hZ w4'') (mvT hZ wc) hy (backOf (Q := fun v h L => Fr n0 L ∧ Q' v h) (W := (rest.map fun v => v.category).sum) hC hZ w6 w5 hf hlo) qa qb qc (g := mkF m pc Ls st) rfl (hsz.trans hm.symm) (Steps.refl _) (argsL := as') (rest := rest) (lenOf hpd hlen) hst (by show 2 * 0 + _ ≤ _; omega) (hb hc hd) (fun _ _ => ⟨rfl, eT, hc1, hs1⟩)
  dsimp only [Pt.U, Pt.locs, Pt.cells, Pt.slots] at X' l1 l2 l3 stp hQ'
  subst l1 l2 l3
  obtain ⟨s₂, v2, L, h1, r⟩ := hr v T'.heap hQ' p e s m args below meth c T' _ hx hZ ho hn hc hm hr' hk X' (Fr.app N N') rfl (hI v s T'.heap hQ' hJ)
  exact ⟨s₂, v2, L, stp.trans h1, r⟩
/-! calls that are paid otherwise -/
theorem Go.callIP {o' d' : String} {bytes : ByteArray} {mL' index : Nat} {kc ks W : Nat} (a : Addr) (as' rest : List Value) {Q' : Option Value → Heap → Prop} {ps : List FieldType} {r : Option FieldType}
    (hC : Pays l Z n0 R (⟨o', "<init>", d'⟩ : MethodName) 3 W (.ref a :: as').toArray h kc ks Q') (w1 : (Cond.methodLink own index (⟨o', "<init>", d'⟩ : MethodName)).before a0 Z = true) (w2 : (Cond.instanceMethod (⟨o', "<init>", d'⟩ : MethodName)).before a0 Z = true) (w3 : (Cond.initialized o').before a0 Z = true) (w4 : (Cond.code (⟨o', "<init>", d'⟩ : MethodName) bytes mL' none).before a0 Z = true)
    (hy : o' ≠ "java/lang/invoke/MethodHandle" ∧ o' ≠ "java/lang/invoke/VarHandle") (hpd : parseMethodDescriptor d' = some ⟨ps, r⟩) (hlen : as'.length = ps.length) (hst : st = as'.reverse ++ .ref a :: rest) (hsz : Ls.size = mL) (hW : (rest.map fun v => v.category).sum ≤ W) (hc1 : cells + kc ≤ R.cells) (hs1 : slots + ks ≤ R.slots)
    (hd : decode code pc = .ok (.invokespecial index, 3)) (hI : ∀ (v : Option Value) (s : State) (h' : Heap), Q' v h' → I s h → I' s h') (hr : ∀ v h', Q' v h' → Go l Z n0 R own nm code mL ret I' F h' (cells + kc) (slots + ks) (pc + 3) Ls (v.toList ++ rest)) : Go l Z n0 R own nm code mL ret I F h cells slots pc Ls st := by
  intro p e s m args below meth c T locs hx hZ ho hn hc hm hr' hk X N eT hJ
  obtain ⟨v, _, ⟨T', L', k', n''⟩, -, X', ⟨Lc, ⟨N', hQ'⟩, l1, l2, l3⟩, stp⟩ := X.specialBack hx (y := (⟨o', "<init>", d'⟩ : MethodName)) rfl ho (mvT hZ w1) (mvT hZ w2) (mvT hZ w4) hy (hC p e below s args hZ) (g := mkF m pc Ls st) rfl (hsz.trans hm.symm) (Steps.refl _) (a := a) (argsL := as') (rest := rest) (lenOf hpd hlen) hst (by show 2 * 0 + _ ≤ _; omega) (hb hc hd) (fun _ _ => ⟨rfl, eT, hc1, hs1⟩)
  dsimp only [Pt.U, Pt.locs, Pt.cells, Pt.slots] at X' l1 l2 l3 stp hQ'
  subst l1 l2 l3
  obtain ⟨s₂, v2, L, h1, r⟩ := hr v T'.heap hQ' p e s m args below meth c T' _ hx hZ ho hn hc hm hr' hk X' (Fr.app N N') rfl (hI v s T'.heap hQ' hJ)
  exact ⟨s₂, v2, L, stp.trans h1, r⟩
theorem Go.callVP {o' n' d' C oz : String} {bytes : ByteArray} {mL' index : Nat} {rt : Option FieldType} {kc ks W : Nat} (a : Addr) (as' rest : List Value) {Q' : Option Value → Heap → Prop} {ps : List FieldType} {r : Option FieldType}
    (hC : Pays l Z n0 R (⟨oz, n', d'⟩ : MethodName) 3 W (.ref a :: as').toArray h kc ks Q') (E : Exa Z h a C) (w1 : (Cond.methodLink own index (⟨o', n', d'⟩ : MethodName)).before a0 Z = true) (w2 : (Cond.declares (⟨o', n', d'⟩ : MethodName)).before a0 Z = true) (nf : ∀ s : State, Z.Warmed39 s.vm → NotFace s (⟨o', n', d'⟩ : MethodName)) (w3 : (Cond.selects C (⟨o', n', d'⟩ : MethodName) (⟨oz, n', d'⟩ : MethodName)).before a0 Z = true) (w4 : (Cond.instanceMethod (⟨oz, n', d'⟩ : MethodName)).before a0 Z = true) (w5 : (Cond.initialized oz).before a0 Z = true) (w6 : (Cond.code (⟨oz, n', d'⟩ : MethodName) bytes mL' rt).before a0 Z = true)
    (hy : o' ≠ "java/lang/invoke/MethodHandle" ∧ o' ≠ "java/lang/invoke/VarHandle") (hpd : parseMethodDescriptor d' = some ⟨ps, r⟩) (hlen : as'.length = ps.length) (hst : st = as'.reverse ++ .ref a :: rest) (hsz : Ls.size = mL) (hW : (rest.map fun v => v.category).sum ≤ W) (hc1 : cells + kc ≤ R.cells) (hs1 : slots + ks ≤ R.slots)
    (hd : decode code pc = .ok (.invokevirtual index, 3)) (hI : ∀ (v : Option Value) (s : State) (h' : Heap), Q' v h' → I s h → I' s h') (hr : ∀ v h', Q' v h' → Go l Z n0 R own nm code mL ret I' F h' (cells + kc) (slots + ks) (pc + 3) Ls (v.toList ++ rest)) : Go l Z n0 R own nm code mL ret I F h cells slots pc Ls st := by
  intro p e s m args below meth c T locs hx hZ ho hn hc hm hr' hk X N eT hJ
  obtain ⟨cq, kq, qa, qb, qc⟩ := isOf hZ eT E
  obtain ⟨v, _, ⟨T', L', k', n''⟩, -, X', ⟨Lc, ⟨N', hQ'⟩, l1, l2, l3⟩, stp⟩ := X.virtualBack hx (y := (⟨o', n', d'⟩ : MethodName)) (z := (⟨oz, n', d'⟩ : MethodName)) ho (mvT hZ w1) (mvT hZ w2) (nf s hZ) (mvT hZ w3) (mvT hZ w4) hy (hC p e below s args hZ) qa qc (g := mkF m pc Ls st) rfl (hsz.trans hm.symm) (Steps.refl _) (argsL := as') (rest := rest) (lenOf hpd hlen) hst (by show 2 * 0 + _ ≤ _; omega) (hb hc hd) (fun _ _ => ⟨rfl, eT, hc1, hs1⟩)
  dsimp only [Pt.U, Pt.locs, Pt.cells, Pt.slots] at X' l1 l2 l3 stp hQ'
  subst l1 l2 l3
  obtain ⟨s₂, v2, L, h1, r⟩ := hr v T'.heap hQ' p e s m args below meth c T' _ hx hZ ho hn hc hm hr' hk X' (Fr.app N N') rfl (hI v s T'.heap hQ' hJ)
  exact ⟨s₂, v2, L, stp.trans h1, r⟩
theorem Go.callSP {o' n' d' : String} {bytes : ByteArray} {mL' index : Nat} {rt : Option FieldType} {kc ks W : Nat} (as' rest : List Value) {Q' : Option Value → Heap → Prop} {ps : List FieldType} {r : Option FieldType}
    (hC : Pays l Z n0 R (⟨o', n', d'⟩ : MethodName) 3 W as'.toArray h kc ks Q') (w1 : (Cond.methodLink own index (⟨o', n', d'⟩ : MethodName)).before a0 Z = true) (w2 : (Cond.static (⟨o', n', d'⟩ : MethodName)).before a0 Z = true) (w3 : (Cond.initialized o').before a0 Z = true) (w4 : (Cond.code (⟨o', n', d'⟩ : MethodName) bytes mL' rt).before a0 Z = true)
    (hy : o' ≠ "java/lang/invoke/MethodHandle" ∧ o' ≠ "java/lang/invoke/VarHandle") (hpd : parseMethodDescriptor d' = some ⟨ps, r⟩) (hlen : as'.length = ps.length) (hst : st = as'.reverse ++ rest) (hsz : Ls.size = mL) (hW : (rest.map fun v => v.category).sum ≤ W) (hc1 : cells + kc ≤ R.cells) (hs1 : slots + ks ≤ R.slots)
    (hd : decode code pc = .ok (.invokestatic index, 3)) (hI : ∀ (v : Option Value) (s : State) (h' : Heap), Q' v h' → I s h → I' s h') (hr : ∀ v h', Q' v h' → Go l Z n0 R own nm code mL ret I' F h' (cells + kc) (slots + ks) (pc + 3) Ls (v.toList ++ rest)) : Go l Z n0 R own nm code mL ret I F h cells slots pc Ls st := by
  intro p e s m args below meth c T locs hx hZ ho hn hc hm hr' hk X N eT hJ
  obtain ⟨v, _, ⟨T', L', k', n''⟩, -, X', ⟨Lc, ⟨N', hQ'⟩, l1, l2, l3⟩, stp⟩ := Jvm.LawKit.callS X hx (y := (⟨o', n', d'⟩ : MethodName)) ho (mvT hZ w1) (mvT hZ w2) (mvT hZ w3) (mvT hZ w4) hy (hC p e below s args hZ) (g := mkF m pc Ls st) rfl (hsz.trans hm.symm) (argsL := as') (rest := rest) (lenOf hpd hlen) hst (by show 2 * 0 + _ ≤ _; omega) (hb hc hd) (fun _ _ => ⟨rfl, eT, hc1, hs1⟩)
  dsimp only [Pt.U, Pt.locs, Pt.cells, Pt.slots] at X' l1 l2 l3 stp hQ'
  subst l1 l2 l3
  obtain ⟨s₂, v2, L, h1, r⟩ := hr v T'.heap hQ' p e s m args below meth c T' _ hx hZ ho hn hc hm hr' hk X' (Fr.app N N') rfl (hI v s T'.heap hQ' hJ)
  exact ⟨s₂, v2, L, stp _ h1, r⟩
end Go
end Jvm.Own
namespace Jvm.Own
open Jvm Jvm.ClassFile Sem Op Lib Jvm.Free Jvm.Stand Jvm.LawKit Jvm.RoadKit Bundle
/-- a class that is there and is no interface -/
def Ord (Z : State) (C : String) : Prop := ∃ c k, Z.vm.findClass C = some c ∧ Z.vm.classes[c]? = some k ∧ k.isInterface = false
theorem Ord.sel {Z : State} {a0 : Array Value} {C : String} {x y : MethodName} (w : (Cond.selects C x y).before a0 Z = true) : Ord Z y.cls := by
  obtain ⟨c, r, mm, h1, h2, h3, h4, k, h5, h6⟩ := Cond.selects_spec w
  exact ⟨mm.cls, k, findClass_of_methodNamed h3, h5, h6⟩
theorem Ord.nf {Z : State} {o' n' d' : String} (F : Ord Z o') : ∀ s : State, Z.Warmed39 s.vm → NotFace s (⟨o', n', d'⟩ : MethodName) := by
  intro s hZ r0 h0
  obtain ⟨c, k, h1, h2, h3⟩ := F
  have q := findClass_of_methodNamed h0
  rw [hZ.alike.findClass] at q
  cases h1.symm.trans q
  obtain ⟨k', q1, q2⟩ := hZ.alike.2.2 _ _ h2
  exact ⟨k', q1, by rw [q2]; exact h3⟩
theorem sel_priv2 {Z : State} {a0 : Array Value} {y : MethodName} (F : Ord Z y.cls) (wm : (Cond.instanceMethod y).before a0 Z = true) (wp : (Cond.privateMethod y).before a0 Z = true) (hy : y.cls ≠ "java/lang/invoke/MethodHandle" ∧ y.cls ≠ "java/lang/invoke/VarHandle") : (Cond.selects y.cls y y).before a0 Z = true := by
  obtain ⟨mk, meth, hnamed, hmeth, -, -⟩ := Cond.instanceMethod_spec wm
  obtain ⟨c, k, hc, hk, hni⟩ := F
  have hfound := State.methodFound?_of_named hnamed hy
  have hc' := findClass_of_methodNamed hnamed
  cases hc.symm.trans hc'
  have hsel : selectMethod {} Z.vm mk.cls mk = .method mk := selectMethod_private hmeth (Cond.privateMethod_at wp mk meth hnamed hmeth)
  simp [Cond.before, Cond.holds, Cond.value, hc', hfound, hnamed, hsel, hk, hni]
theorem same_self {Z : State} {a0 : Array Value} {y : MethodName} (F : Ord Z y.cls) (wm : (Cond.instanceMethod y).before a0 Z = true) (hy : y.cls ≠ "java/lang/invoke/MethodHandle" ∧ y.cls ≠ "java/lang/invoke/VarHandle") : (Cond.sameMethod y.cls y.cls y.name y.desc).before a0 Z = true := by
  obtain ⟨mk, meth, hnamed, hmeth, -, -⟩ := Cond.instanceMethod_spec wm
  obtain ⟨c, k, hc, hk, hni⟩ := F
  have hfound := State.methodFound?_of_named hnamed hy
  have hc' := findClass_of_methodNamed hnamed
  cases hc.symm.trans hc'
  simp [Cond.before, Cond.holds, Cond.value, hc', hfound, hnamed, hk, hni]
section Go
variable {l : Launch} {Z : State} {n0 : Nat} {R : Room} {own nm : String} {code : ByteArray} {mL : Nat} {ret : Option FieldType} {Q : Option Value → Heap → Prop} {I I' : State → Heap → Prop} {F : State → Option Value → State → List Loc → Prop} {h : Heap} {cells slots pc : Nat} {Ls : Array Slot} {st rest : List Value} {a0 : Array Value}
/-- invokespecial: a method of the direct superclass -/
theorem Go.callSup {o' n' d' C : String} {bytes : ByteArray} {mL' index : Nat} {rt : Option FieldType} {rm : Room} (a : Addr) (as' rest : List Value) {Q' : Option Value → Heap → Prop} {ps : List FieldType} {r : Option FieldType}
    (hC : Ct l Z n0 o' n' d' [] bytes mL' rt rm (.ref a :: as').toArray h Q') (E : Exa Z h a C) (FO : Ord Z o') (w1 : (Cond.methodLink own index (⟨o', n', d'⟩ : MethodName)).before a0 Z = true) (w2 : (Cond.instanceMethod (⟨o', n', d'⟩ : MethodName)).before a0 Z = true) (w4 : (Cond.superclass own o').before a0 Z = true) (w5 : (Cond.initialized o').before a0 Z = true) (w6 : (Cond.code (⟨o', n', d'⟩ : MethodName) bytes mL' rt).before a0 Z = true) (hni : n' ≠ "<init>")
    (hy : o' ≠ "java/lang/invoke/MethodHandle" ∧ o' ≠ "java/lang/invoke/VarHandle") (hpd : parseMethodDescriptor d' = some ⟨ps, r⟩) (hlen : as'.length = ps.length) (hst : st = as'.reverse ++ .ref a :: rest) (hsz : Ls.size = mL) (hf : rm.frames + 1 ≤ R.frames) (hlo : (rest.map fun v => v.category).sum + (mL' + 11) + rm.locals ≤ R.locals) (hc1 : cells + rm.cells ≤ R.cells) (hs1 : slots + rm.slots ≤ R.slots)
    (hd : decode code pc = .ok (.invokespecial index, 3)) (hI : ∀ (v : Option Value) (s : State) (h' : Heap), Q' v h' → I s h → I' s h') (hr : ∀ v h', Q' v h' → Go l Z n0 R own nm code mL ret I' F h' (cells + rm.cells) (slots + rm.slots) (pc + 3) Ls (v.toList ++ rest)) : Go l Z n0 R own nm code mL ret I F h cells slots pc Ls st := by
  intro p e s m args below meth c T locs hx hZ ho hn hc hm hr' hk X N eT hJ
  obtain ⟨v, _, ⟨T', L', k', n''⟩, -, X', ⟨Lc, ⟨N', hQ'⟩, l1, l2, l3⟩, stp⟩ := Jvm.RoadKit.superBack X hx hZ (K := C) (y := (⟨o', n', d'⟩ : MethodName)) ho w1 (same_self (y := (⟨o', n', d'⟩ : MethodName)) FO w2 hy) w2 w4 hni (backOf (Q := fun v h L => Fr n0 L ∧ Q' v h) (W := (rest.map fun v => v.category).sum) hC hZ w6 w5 hf hlo) eT (Ins.self E) (g := mkF m pc Ls st) rfl (hsz.trans hm.symm) w6 (argsL := as') (rest := rest) (lenOf hpd hlen) hst (by show 2 * 0 + _ ≤ _; omega) (hb hc hd) (fun _ _ => ⟨rfl, eT, hc1, hs1⟩)
  dsimp only [Pt.U, Pt.locs, Pt.cells, Pt.slots] at X' l1 l2 l3 stp hQ'
  subst l1 l2 l3
  obtain ⟨s₂, v2, L, h1, r⟩ := hr v T'.heap hQ' p e s m args below meth c T' _ hx hZ ho hn hc hm hr' hk X' (Fr.app N N') rfl (hI v s T'.heap hQ' hJ)
  exact ⟨s₂, v2, L, stp.trans h1, r⟩
/-- System.arraycopy between arrays of one primitive type -/
theorem Go.copyB {index : Nat} {a b : Addr} {k k' : ClassId} {ty : FieldType} {z z' sp dp nn : Int32} {vs vd : List Value} {dv dd : Value} (us : List Value) (A : Arv Z h a k ty z vs dv) (B : Arv Z h b k' ty z' vd dd) (hty : refKind ty = false)
    (w1 : (Cond.methodLink own index (⟨"java/lang/System", "arraycopy", "(Ljava/lang/Object;ILjava/lang/Object;II)V"⟩ : MethodName)).before a0 Z = true) (w2 : (Cond.native (⟨"java/lang/System", "arraycopy", "(Ljava/lang/Object;ILjava/lang/Object;II)V"⟩ : MethodName)).before a0 Z = true) (w3 : (Cond.static (⟨"java/lang/System", "arraycopy", "(Ljava/lang/Object;ILjava/lang/Object;II)V"⟩ : MethodName)).before a0 Z = true) (w4 : (Cond.initialized "java/lang/System").before a0 Z = true)
    (h1 : ¬ sp < 0) (h2 : ¬ dp < 0) (h3 : ¬ nn < 0) (h4 : sp.toNatClampNeg + nn.toNatClampNeg ≤ z.toNatClampNeg) (h5 : dp.toNatClampNeg + nn.toNatClampNeg ≤ z'.toNatClampNeg) (hus : us = (List.range nn.toNatClampNeg).map fun i => vs.getD (sp.toNatClampNeg + i) dv) (hl : dp.toNatClampNeg + nn.toNatClampNeg ≤ vd.length) (ge : n0 ≤ b)
    (hd : decode code pc = .ok (.invokestatic index, 3)) (hsz : Ls.size = mL) (hf : 1 ≤ R.frames) (hlo : (rest.map fun v => v.category).sum + (nativeFrameWords "java/lang/System" "arraycopy" 5 + 11) ≤ R.locals)
    (hI : ∀ (s : State) (h' : Heap), Keep h h' [b] → I s h → I' s h') (hr : ∀ h', Keep h h' [b] → Arv Z h' b k' ty z' (vd.take dp.toNatClampNeg ++ us ++ vd.drop (dp.toNatClampNeg + nn.toNatClampNeg)) dd → Go l Z n0 R own nm code mL ret I' F h' cells slots (pc + 3) Ls rest) : Go l Z n0 R own nm code mL ret I F h cells slots pc Ls (.int nn :: .int dp :: .ref b :: .int sp :: .ref a :: rest) := by
  intro p e s m args below meth c T locs hx hZ ho hn hc hm hr' hk X N eT hJ
  obtain ⟨T', h', L', X', e', N', K', V', stp⟩ := Jvm.RoadKit.cpA X hx hZ ho w1 w2 w3 w4 eT A B (us := us) (Or.inl ⟨rfl, hty⟩) h1 h2 h3 h4 h5 hus hl N ge (g := mkF m pc Ls (.int nn :: .int dp :: .ref b :: .int sp :: .ref a :: rest)) rfl (hsz.trans hm.symm) (rest := rest) rfl (hb hc hd) hf (W := (rest.map fun v => v.category).sum) (by show 2 * 0 + _ ≤ _; omega) hlo
  obtain ⟨s₂, v2, L, g1, r⟩ := hr h' K' V' p e s m args below meth c T' _ hx hZ ho hn hc hm hr' hk X' N' e' (hI s h' K' hJ)
  exact ⟨s₂, v2, L, stp _ g1, r⟩
end Go
end Jvm.Own
namespace Jvm.Own
open Jvm Jvm.ClassFile Sem Op Lib Jvm.Free Jvm.Stand Jvm.LawKit Jvm.RoadKit Bundle
/-- what a walk bears that may load String constants: the tables since the start s₀, the constants of EL held, and every place from lo on, and those of Sf, no constant's -/
def IW (Z : State) (EL : List (String × Nat)) (s₀ : State) (lo : Nat) (Sf : List Addr) : State → Heap → Prop := fun s h =>
  ∃ (vm0 : Vm) (k0 : Nat), s = s₀.setVm vm0 ∧ Z.Warmed39 vm0 ∧ s₀.Since vm0 k0 ∧ k0 ≤ h.size ∧ CHr Z EL s₀.vm s₀.heap vm0 h ∧ ∀ x, (lo ≤ x ∨ x ∈ Sf) → Safe Z EL vm0 h x
/-- the end of such a walk -/
def FW (Z : State) (EL : List (String × Nat)) (s₀ : State) (n0 : Nat) (R : Room) (Q : Option Value → Heap → Prop) : State → Option Value → State → List Loc → Prop := fun _ v s₂ L =>
  Fr n0 L ∧ Q v s₂.heap ∧ CHr Z EL s₀.vm s₀.heap s₂.vm s₂.heap ∧ ReturnedEndW s₀ (.returned v) s₂ L R.cells R.slots
/-- a body's contract, where it may load constants; it may write the places of Sf -/
def CtW (l : Launch) (Z : State) (EL : List (String × Nat)) (n0 : Nat) (own nm ds : String) (ws : List Cond) (code : ByteArray) (mL : Nat) (ret : Option FieldType) (rm : Room) (as' : Array Value) (h0 : Heap) (Sf : List Addr) (Q : Option Value → Heap → Prop) : Prop :=
  MetFree l (⟨own, nm, ds⟩ : MethodName) (head1 (Cond.code (⟨own, nm, ds⟩ : MethodName) code mL ret :: ws) rm) (fun a U => a = as' ∧ Z.Warmed39 U.vm ∧ U.heap = h0 ∧ CHv Z EL U.vm h0 ∧ ∀ x ∈ Sf, Safe Z EL U.vm h0 x) (fun _ _ _ _ _ => True)
    (fun _ U o U' => ∃ v L, o = .returned v ∧ (Fr n0 L ∧ Q v U'.heap) ∧ CHr Z EL U.vm U.heap U'.vm U'.heap ∧ ReturnedEndW U o U' L rm.cells rm.slots)
/-- this place may be written: it is no constant's -/
def Sb (Z : State) (h : Heap) (lo : Nat) (Sf : List Addr) (x : Addr) : Prop := (lo ≤ x ∨ x ∈ Sf) ∨ (∃ C, Exa Z h x C ∧ C ≠ "java/lang/String" ∧ C ≠ "[B") ∨ ∃ k ty z vs dv, Arv Z h x k ty z vs dv ∧ ty ≠ .byte
section Wide
variable {l : Launch} {Z s₀ : State} {EL : List (String × Nat)} {n0 lo : Nat} {Sf : List Addr} {R : Room} {own nm : String} {code : ByteArray} {mL : Nat} {ret : Option FieldType} {Q : Option Value → Heap → Prop} {F : State → Option Value → State → List Loc → Prop} {h : Heap} {cells slots pc : Nat} {Ls : Array Slot} {st rest : List Value} {a0 : Array Value}
theorem Sb.safe {vm0 : Vm} {x : Addr} (hal : Z.vm.Alike vm0) (hS : ∀ x, (lo ≤ x ∨ x ∈ Sf) → Safe Z EL vm0 h x) (S : Sb Z h lo Sf x) : Safe Z EL vm0 h x := by
  rcases S with q | ⟨C, E, h1, h2⟩ | ⟨k, ty, z, vs, dv, V, ht⟩
  · exact hS x q
  · exact Safe.exa hal E h1 h2
  · exact Safe.arv hal V ht
theorem Sb.up {x : Addr} (q : lo ≤ x) : Sb Z h lo Sf x := Or.inl (Or.inl q)
theorem Sb.mem {x : Addr} (q : x ∈ Sf) : Sb Z h lo Sf x := Or.inl (Or.inr q)
theorem Sb.exa {x : Addr} {C : String} (E : Exa Z h x C) (h1 : C ≠ "java/lang/String") (h2 : C ≠ "[B") : Sb Z h lo Sf x := Or.inr (Or.inl ⟨C, E, h1, h2⟩)
theorem Sb.arv {x : Addr} {k : ClassId} {ty : FieldType} {z : Int32} {vs : List Value} {dv : Value} (V : Arv Z h x k ty z vs dv) (ht : ty ≠ .byte) : Sb Z h lo Sf x := Or.inr (Or.inr ⟨k, ty, z, vs, dv, V, ht⟩)
theorem IW.keep {ws : List Addr} {s : State} {h' : Heap} (K : Keep h h' ws) (hs : ∀ x ∈ ws, Sb Z h lo Sf x) (J : IW Z EL s₀ lo Sf s h) : IW Z EL s₀ lo Sf s h' := by
  obtain ⟨vm0, k0, e, hZ, hS, hk, hC, hSf⟩ := J
  have hs' : ∀ x ∈ ws, Safe Z EL vm0 h x := fun x q => (hs x q).safe hZ.alike hSf
  exact ⟨vm0, k0, e, hZ, hS, Nat.le_trans hk K.1, hC.trans (CHr.keep K hs' hC.1), fun x q => Safe.keep K hs' hC.1 (hSf x q)⟩
theorem wI {a : Addr} (hs : Sb Z h lo Sf a) : ∀ (s : State) (h' : Heap), Keep h h' [a] → IW Z EL s₀ lo Sf s h → IW Z EL s₀ lo Sf s h' := fun _ _ K J => J.keep K (allS hs all0)
theorem wE : ∀ (s : State) (h' : Heap), Ext h h' → h.size < h'.size → IW Z EL s₀ lo Sf s h → IW Z EL s₀ lo Sf s h' := fun _ _ E _ J => J.keep ((Keep.refl h []).ext E) all0
theorem wQ {Q' : Option Value → Heap → Prop} {ws : List Addr} (hK : ∀ v h', Q' v h' → Keep h h' ws) (hs : ∀ x ∈ ws, Sb Z h lo Sf x) : ∀ (v : Option Value) (s : State) (h' : Heap), Q' v h' → IW Z EL s₀ lo Sf s h → IW Z EL s₀ lo Sf s h' := fun v _ h' q J => J.keep (hK v h' q) hs
theorem CtW.of_go {ds : String} {ws : List Cond} {rm : Room} {as' : Array Value} {h0 : Heap} (hp : plainFor (⟨own, nm, ds⟩ : MethodName) = true) (hef : ∀ m, entryFrame m as' mL = mkF m 0 Ls []) (hg : ∀ s₀ : State, Go l Z n0 rm own nm code mL ret (IW Z EL s₀ h0.size Sf) (FW Z EL s₀ n0 rm Q) h0 0 0 0 Ls []) : CtW l Z EL n0 own nm ds ws code mL ret rm as' h0 Sf Q := by
  refine MetFree.of_bodySF hp hisR ?_
  intro p e s m args below meth c s₁ Bd hml hP hK
  obtain ⟨rfl, hZ, hh, hC, hSf⟩ := hP
  have hown : s.vm.findClass own = some m.cls := findClass_of_methodNamed Bd.named
  have hnm := (name_of_methodNamed Bd.named Bd.method).1
  have X0 : Stand p l e rm s m args below meth c s₁ [] 0 0 := Stand.of_body Bd
  have e0 : s₁.heap = h0 := by rw [← hh, Bd.state]; rfl
  have hJ : IW Z EL s h0.size Sf s h0 := ⟨s.vm, h0.size, rfl, hZ, State.WarmedH.since (State.WarmedH.refl s) _, Nat.le_refl _, by rw [hh]; exact CHr.refl hC, fun x q => q.elim Safe.new (hSf x)⟩
  obtain ⟨s₂, v, L, h1, h2, h3, h4, h5, h6, h7⟩ := hg s p e s m args below meth c s₁ [] Bd.exec hZ hown hnm Bd.bytes hml Bd.returns Bd.notSynchronized X0 (Fr.nil n0) e0 hJ
  exact ⟨s₂, _, castTop (hef m) h1, h2, h3, v, L, rfl, ⟨h4, h5⟩, h6, h7⟩
theorem CtW.mono {ds : String} {ws : List Cond} {rm : Room} {as' : Array Value} {h0 : Heap} {Q' : Option Value → Heap → Prop} (C : CtW l Z EL n0 own nm ds ws code mL ret rm as' h0 Sf Q) (hq : ∀ v h, Q v h → Q' v h) : CtW l Z EL n0 own nm ds ws code mL ret rm as' h0 Sf Q' := by
  intro p e ha hc hk s m args below hf happ hP hK
  obtain ⟨n, o, h1, h2, h3, v, L, h4, ⟨h5, h6⟩, h7⟩ := C p e ha hc hk s m args below hf happ hP hK
  exact ⟨n, o, h1, h2, h3, v, L, h4, ⟨h5, hq _ _ h6⟩, h7⟩
/-! ends -/
theorem wEnd {p : Program} {e : Env} {m : MethodId} {args : Array Value} {below : List Frame} {meth : Method} {c : Code} {s T : State} {locs : List Loc} {v : Option Value} {fs : List Frame} (hEL : EW Z a0 EL) (hx : Fr n0 locs) (X : Stand p l e R s m args below meth c T locs cells slots) (eT : T.heap = h) (J : IW Z EL s₀ lo Sf s h) (hW : s.WarmedH (T.setFrames fs).vm) (hsame : s.sameButNew ({ T.setFrames fs with vm := s.vm } : State) locs cells slots) (hc1 : cells ≤ R.cells) (hs1 : slots ≤ R.slots) (hQ : Q v h) :
    FW Z EL s₀ n0 R Q s v (T.setFrames fs) locs := by
  obtain ⟨vm0, k0, rfl, hZ, hS, hk, hC, hSf⟩ := J
  have A := CHv.at X hZ hEL hC.1
  refine ⟨hx, by show Q v T.heap; rw [eT]; exact hQ, ?_, ?_⟩
  · show CHr Z EL s₀.vm s₀.heap T.vm T.heap
    rw [eT]; exact hC.trans A
  · have h2 : (s₀.setVm vm0).Since (T.setFrames fs).vm h.size := hW.since _
    have h3 := hS.trans h2 hk
    refine ⟨⟨_, rfl⟩, h3.1, ?_, State.sameButNew.mono (s := s₀) (hsame.setVm s₀.vm) hc1 hs1⟩
    intro j q hj hq
    have := h3.2 j q hj hq
    rw [← eT] at this
    exact this
theorem GW.return_ (hEL : EW Z a0 EL) (hd : decode code pc = .ok (.return_, 1)) (hret : ret = none) (hc1 : cells ≤ R.cells) (hs1 : slots ≤ R.slots) (hQ : Q none h) : Go l Z n0 R own nm code mL ret (IW Z EL s₀ lo Sf) (FW Z EL s₀ n0 R Q) h cells slots pc Ls [] := by
  intro p e s m args below meth c T locs hx hZ ho hn hc hm hr' hk X N eT hJ
  obtain ⟨fs, hr, hrun, hended, hW, hsame⟩ := X.leave (v := none) (fun _ => rfl) hk
  exact ⟨_, none, locs, X.returnOut hx (hr'.trans hret) (hb hc hd) hr, hrun, hended, wEnd hEL N X eT hJ hW hsame hc1 hs1 hQ⟩
theorem GW.areturn {v : Value} {t : FieldType} (hEL : EW Z a0 EL) (hd : decode code pc = .ok (.areturn, 1)) (hret : ret = some t) (ht : t.isReference = true) (hv : v.isRef = true) (hc1 : cells ≤ R.cells) (hs1 : slots ≤ R.slots) (hQ : Q (some v) h) : Go l Z n0 R own nm code mL ret (IW Z EL s₀ lo Sf) (FW Z EL s₀ n0 R Q) h cells slots pc Ls (v :: st) := by
  intro p e s m args below meth c T locs hx hZ ho hn hc hm hr' hk X N eT hJ
  obtain ⟨fs, hr, hrun, hended, hW, hsame⟩ := X.leave (v := some v) (fun h => by rw [hr', hret] at h; cases h) hk
  have hnw : narrow t v = v := by cases t <;> first | rfl | (cases ht; done)
  exact ⟨_, some v, locs, retOut X hx (hr'.trans hret) hnw (Or.inr (Or.inr (Or.inr (Or.inr ⟨rfl, ht, hv⟩)))) (hb hc hd) hr, hrun, hended, wEnd hEL N X eT hJ hW hsame hc1 hs1 hQ⟩
theorem GW.ireturn {z : Int32} (hEL : EW Z a0 EL) (hd : decode code pc = .ok (.ireturn, 1)) (hret : ret = some .int) (hc1 : cells ≤ R.cells) (hs1 : slots ≤ R.slots) (hQ : Q (some (.int z)) h) : Go l Z n0 R own nm code mL ret (IW Z EL s₀ lo Sf) (FW Z EL s₀ n0 R Q) h cells slots pc Ls (.int z :: st) := by
  intro p e s m args below meth c T locs hx hZ ho hn hc hm hr' hk X N eT hJ
  obtain ⟨fs, hr, hrun, hended, hW, hsame⟩ := X.leave (v := some (.int z)) (fun h => by rw [hr', hret] at h; cases h) hk
  exact ⟨_, some (.int z), locs, retOut X hx (hr'.trans hret) rfl (Or.inl ⟨rfl, Or.inl rfl, z, rfl⟩) (hb hc hd) hr, hrun, hended, wEnd hEL N X eT hJ hW hsame hc1 hs1 hQ⟩
theorem GW.nreturn {z : Int32} (t : FieldType) (hEL : EW Z a0 EL) (hd : decode code pc = .ok (.ireturn, 1)) (hret : ret = some t) (ht : t = .boolean ∨ t = .byte ∨ t = .char ∨ t = .short) (hc1 : cells ≤ R.cells) (hs1 : slots ≤ R.slots) (hQ : Q (some (.int (nar t z))) h) : Go l Z n0 R own nm code mL ret (IW Z EL s₀ lo Sf) (FW Z EL s₀ n0 R Q) h cells slots pc Ls (.int z :: st) := by
  intro p e s m args below meth c T locs hx hZ ho hn hc hm hr' hk X N eT hJ
  obtain ⟨fs, hr, hrun, hended, hW, hsame⟩ := X.leave (v := some (.int (nar t z))) (fun h => by rw [hr', hret] at h; cases h) hk
  exact ⟨_, some (.int (nar t z)), locs, retN X hx (hr'.trans hret) ht (hb hc hd) hr, hrun, hended, wEnd hEL N X eT hJ hW hsame hc1 hs1 hQ⟩
/-! a constant, read -/
theorem GW.ldc {text : String} {index : Nat} (Sf' : List Addr) {vs : List Value} {z : Int32} (hEL : EW Z a0 EL) (wS : ∀ a ∈ Bundle.stringAtoms, a.before a0 Z = true) (w : (Cond.stringLink own index text).before a0 Z = true) (hmem : (own, index) ∈ EL) (ht : (∀ c ∈ text.toList, c.toNat < 256) ∧ text.toList.map (fun c => Value.int (Jvm.Lit.byteI c.toNat.toUInt16)) = vs) (hz : ¬ z < 0) (hl : z.toNatClampNeg = vs.length)
    (hd : decode code pc = .ok (.ldc index, 2)) {n : Nat} (hn0 : 4 * text.toList.length ≤ n) (hbig : n ≤ 536870912) (hc1 : cells + 2 ≤ R.cells) (hs1 : slots + (n + 4) ≤ R.slots) (hSf : ∀ x ∈ Sf', (lo ≤ x ∨ x ∈ Sf) ∧ x < h.size)
    (hr : ∀ (h' : Heap) (a b : Addr) (k : ClassId), Ext h h' → Exa Z h' a "java/lang/String" → Fld Z h' a "java/lang/String" "coder" "B" (.int 0) → Fld Z h' a "java/lang/String" "value" "[B" (.ref b) → Arv Z h' b k .byte z vs (.int 0) → (∀ x ∈ Sf', x ≠ a ∧ x ≠ b) → (∀ (x : Addr) (C : String), Exa Z h' x C → C ≠ "java/lang/String" → C ≠ "[B" → x ≠ a ∧ x ≠ b) → Go l Z n0 R own nm code mL ret (IW Z EL s₀ h'.size Sf') (FW Z EL s₀ n0 R Q) h' (cells + 2) (slots + (n + 4)) (pc + 2) Ls (.ref a :: st)) :
    Go l Z n0 R own nm code mL ret (IW Z EL s₀ lo Sf) (FW Z EL s₀ n0 R Q) h cells slots pc Ls st := by
  intro p e s m args below meth c T locs hx hZ ho hn hc hm hr' hk X N eT hJ
  obtain ⟨vm0, k0, rfl, hZ0, hS, hkk, hC, hSfe⟩ := hJ
  obtain ⟨a, T', h', k1, b, k, X', e', E', hS', hk1, hZ', ho', x1, x2, x3, x4, -, -, hC', -, hne, stp⟩ := ldcCH (s := s₀) X hx hZ0 ho w wS eT hS hkk hEL hmem hC.1 ht hz hl (g := mkF m pc Ls st) rfl (hb hc hd) hn0 hbig hc1 hs1
  have sf : ∀ x ∈ Sf', Safe Z EL T'.vm h' x := fun x q => hC'.safe (hSf x q).2 (hSfe x (hSf x q).1)
  have J' : IW Z EL s₀ h'.size Sf' (s₀.setVm T'.vm) h' := ⟨T'.vm, k1, rfl, hZ', hS', hk1, hC.trans hC', fun x q => q.elim Safe.new (sf x)⟩
  obtain ⟨s₂, v, L, h1, r⟩ := hr h' a b k E' x1 x2 x3 x4 (fun x q => hne x (sf x q)) (fun x C EX c1 c2 => hne x (Safe.exa hZ'.alike EX c1 c2)) p e (s₀.setVm T'.vm) m args below meth c T' _ hx hZ' ho' hn hc hm hr' hk X' N e' J'
  exact ⟨s₂, v, L, stp _ h1, r⟩
/-! calls of bodies that may load constants -/
theorem backW {p : Program} {e : Env} {below : List Frame} {args : Array Value} {vm0 : Vm} {o' n' d' : String} {bytes : ByteArray} {maxL : Nat} {rt : Option FieldType} {rm : Room} {len W : Nat} {as' : Array Value} {Q' : Option Value → Heap → Prop}
    (hM : CtW l Z EL n0 o' n' d' [] bytes maxL rt rm as' h Sf Q')
    (hZ : Z.Warmed39 vm0) (wc : (Cond.code (⟨o', n', d'⟩ : MethodName) bytes maxL rt).before a0 Z = true) (wz : (Cond.initialized o').before a0 Z = true) (hf : rm.frames + 1 ≤ R.frames) (hl : W + (maxL + 11) + rm.locals ≤ R.locals) (hEL : EW Z a0 EL) (H : CHv Z EL vm0 h) (hSf : ∀ x ∈ Sf, x < h.size ∧ Safe Z EL vm0 h x) :
    BackS l R p e below (s₀.setVm vm0) args (⟨o', n', d'⟩ : MethodName) len W (fun A a => a = as' ∧ A.U.heap = h ∧ A.cells + rm.cells ≤ R.cells ∧ A.slots + rm.slots ≤ R.slots)
      (fun A _ v B => ∃ L, (Fr n0 L ∧ Q' v B.U.heap) ∧ B.locs = A.locs ++ L ∧ B.cells = A.cells + rm.cells ∧ B.slots = A.slots + rm.slots ∧ CHr Z EL vm0 h B.U.vm B.U.heap) :=
  BackS.of_freeW (bytes := bytes) (maxL := maxL) (ret := rt) (E := fun _ first o t L k n => k = rm.cells ∧ n = rm.slots ∧ (∃ v, o = .returned v ∧ (Fr n0 L ∧ Q' v t.heap)) ∧ CHr Z EL first.vm first.heap t.vm t.heap) hM hf hl
    (fun m meth c A a Y hp => have hU : Z.Warmed39 A.U.vm := wtrans (s := s₀.setVm vm0) hZ Y.warmed
      ⟨by show (Cond.and _ .tt).before a A.U = true; rw [Cond.before_and, mv hU wc]; rfl, mv hU wc, mv hU wz, hp.2.2.1, hp.2.2.2⟩)
    (fun m meth c A a g mk Y hp => ⟨hp.1, wtrans (s := s₀.setVm vm0) hZ Y.warmed, hp.2.1, (CHv.at Y hZ hEL H).1, fun x q => (CHv.at Y hZ hEL H).safe (hSf x q).1 (hSf x q).2⟩) (fun _ _ _ _ _ _ _ _ _ => trivial)
    (fun _ _ _ _ ⟨v, L, h1, h2, h3, h4⟩ => ⟨L, _, _, h4, rfl, rfl, ⟨v, h1, h2⟩, h3⟩)
    (fun m meth c A a g mk v t L k n Y hp _ _ ⟨e1, e2, ⟨v', e3, e4⟩, e5⟩ => by
      cases e3; subst e1 e2
      refine ⟨L, e4, rfl, rfl, rfl, (CHv.at Y hZ hEL H).trans ?_⟩
      rw [← hp.2.1]; exact e5)
/-- behind such a call -/
theorem afterW {p : Program} {e : Env} {m : MethodId} {args : Array Value} {below : List Frame} {meth : Method} {c : Code} {vm0 : Vm} {k0 : Nat} {T' : State} {locs : List Loc} (Sf' : List Addr) (hZ0 : Z.Warmed39 vm0) (hS : s₀.Since vm0 k0) (hkk : k0 ≤ h.size) (hC : CHr Z EL s₀.vm s₀.heap vm0 h) (hSfe : ∀ x, (lo ≤ x ∨ x ∈ Sf) → Safe Z EL vm0 h x) (hSf : ∀ x ∈ Sf', (lo ≤ x ∨ x ∈ Sf) ∧ x < h.size) (ho : (s₀.setVm vm0).vm.findClass own = some m.cls)
    (X' : Stand p l e R ((s₀.setVm vm0).setVm T'.vm) m args below meth c T' locs cells slots) (h2 : (s₀.setVm vm0).Since T'.vm T'.heap.size) (hg : h.size ≤ T'.heap.size) (hC' : CHr Z EL vm0 h T'.vm T'.heap) :
    Stand p l e R (s₀.setVm T'.vm) m args below meth c T' locs cells slots ∧ Z.Warmed39 (s₀.setVm T'.vm).vm ∧ (s₀.setVm T'.vm).vm.findClass own = some m.cls ∧ IW Z EL s₀ T'.heap.size Sf' (s₀.setVm T'.vm) T'.heap := by
  obtain ⟨r1, r2, r3, r4⟩ := rebS (Z := Z) hS hkk X' h2 hg hZ0 ho
  exact ⟨r1, r3, r4, T'.vm, T'.heap.size, rfl, r3, r2, Nat.le_refl _, hC.trans hC', fun x q => q.elim Safe.new fun q => hC'.safe (hSf x q).2 (hSfe x (hSf x q).1)⟩
theorem GW.callS {o' n' d' : String} {bytes : ByteArray} {mL' index : Nat} {rt : Option FieldType} {rm : Room} (Sf' Sc : List Addr) (as' rest : List Value) {Q' : Option Value → Heap → Prop} {ps : List FieldType} {r : Option FieldType}
    (hC : CtW l Z EL n0 o' n' d' [] bytes mL' rt rm as'.toArray h Sc Q') (hEL : EW Z a0 EL) (hSc : ∀ x ∈ Sc, (lo ≤ x ∨ x ∈ Sf) ∧ x < h.size) (hSf : ∀ x ∈ Sf', (lo ≤ x ∨ x ∈ Sf) ∧ x < h.size) (w1 : (Cond.methodLink own index (⟨o', n', d'⟩ : MethodName)).before a0 Z = true) (w2 : (Cond.static (⟨o', n', d'⟩ : MethodName)).before a0 Z = true) (w3 : (Cond.initialized o').before a0 Z = true) (w4 : (Cond.code (⟨o', n', d'⟩ : MethodName) bytes mL' rt).before a0 Z = true)
    (hy : o' ≠ "java/lang/invoke/MethodHandle" ∧ o' ≠ "java/lang/invoke/VarHandle") (hpd : parseMethodDescriptor d' = some ⟨ps, r⟩) (hlen : as'.length = ps.length) (hst : st = as'.reverse ++ rest) (hsz : Ls.size = mL) (hf : rm.frames + 1 ≤ R.frames) (hlo : (rest.map fun v => v.category).sum + (mL' + 11) + rm.locals ≤ R.locals) (hc1 : cells + rm.cells ≤ R.cells) (hs1 : slots + rm.slots ≤ R.slots)
    (hd : decode code pc = .ok (.invokestatic index, 3)) (hr : ∀ v h', Q' v h' → h.size ≤ h'.size → Go l Z n0 R own nm code mL ret (IW Z EL s₀ h'.size Sf') (FW Z EL s₀ n0 R Q) h' (cells + rm.cells) (slots + rm.slots) (pc + 3) Ls (v.toList ++ rest)) : Go l Z n0 R own nm code mL ret (IW Z EL s₀ lo Sf) (FW Z EL s₀ n0 R Q) h cells slots pc Ls st := by
  intro p e s m args below meth c T locs hx hZ ho hn hc hm hr' hk X N eT hJ
  obtain ⟨vm0, k0, rfl, hZ0, hS, hkk, hCC, hSfe⟩ := hJ
  obtain ⟨v, _, ⟨T', L', k', n''⟩, -, X', hS2, hg2, ⟨Lc, ⟨N', hQ'⟩, l1, l2, l3, hC'⟩, stp⟩ := Jvm.RoadKit.callSS X hx (y := (⟨o', n', d'⟩ : MethodName)) ho (mvT hZ w1) (mvT hZ w2) (mvT hZ w3) (mvT hZ w4) hy (backW (W := (rest.map fun v => v.category).sum) hC hZ0 w4 w3 hf hlo hEL hCC.1 (fun x q => ⟨(hSc x q).2, hSfe x (hSc x q).1⟩)) (g := mkF m pc Ls st) rfl (hsz.trans hm.symm) (argsL := as') (rest := rest) (lenOf hpd hlen) hst (by show 2 * 0 + _ ≤ _; omega) (hb hc hd) (fun _ _ => ⟨rfl, eT, hc1, hs1⟩)
  dsimp only [Pt.U, Pt.locs, Pt.cells, Pt.slots] at X' l1 l2 l3 stp hQ' hS2 hg2 hC'
  subst l1 l2 l3
  rw [eT] at hg2
  obtain ⟨r1, r2, r3, J'⟩ := afterW Sf' hZ0 hS hkk hCC hSfe hSf ho X' hS2 hg2 hC'
  obtain ⟨s₂, v2, L, h1, r⟩ := hr v T'.heap hQ' hg2 p e _ m args below meth c T' _ hx r2 r3 hn hc hm hr' hk r1 (Fr.app N N') rfl J'
  exact ⟨s₂, v2, L, stp.trans h1, r⟩
theorem GW.callI {o' d' : String} {bytes : ByteArray} {mL' index : Nat} {rm : Room} (Sf' Sc : List Addr) (a : Addr) (as' rest : List Value) {Q' : Option Value → Heap → Prop} {ps : List FieldType} {r : Option FieldType}
    (hC : CtW l Z EL n0 o' "<init>" d' [] bytes mL' none rm (.ref a :: as').toArray h Sc Q') (hEL : EW Z a0 EL) (hSc : ∀ x ∈ Sc, (lo ≤ x ∨ x ∈ Sf) ∧ x < h.size) (hSf : ∀ x ∈ Sf', (lo ≤ x ∨ x ∈ Sf) ∧ x < h.size) (w1 : (Cond.methodLink own index (⟨o', "<init>", d'⟩ : MethodName)).before a0 Z = true) (w2 : (Cond.instanceMethod (⟨o', "<init>", d'⟩ : MethodName)).before a0 Z = true) (w3 : (Cond.initialized o').before a0 Z = true) (w4 : (Cond.code (⟨o', "<init>", d'⟩ : MethodName) bytes mL' none).before a0 Z = true)
    (hy : o' ≠ "java/lang/invoke/MethodHandle" ∧ o' ≠ "java/lang/invoke/VarHandle") (hpd : parseMethodDescriptor d' = some ⟨ps, r⟩) (hlen : as'.length = ps.length) (hst : st = as'.reverse ++ .ref a :: rest) (hsz : Ls.size = mL) (hf : rm.frames + 1 ≤ R.frames) (hlo : (rest.map fun v => v.category).sum + (mL' + 11) + rm.locals ≤ R.locals) (hc1 : cells + rm.cells ≤ R.cells) (hs1 : slots + rm.slots ≤ R.slots)
    (hd : decode code pc = .ok (.invokespecial index, 3)) (hr : ∀ v h', Q' v h' → h.size ≤ h'.size → Go l Z n0 R own nm code mL ret (IW Z EL s₀ h'.size Sf') (FW Z EL s₀ n0 R Q) h' (cells + rm.cells) (slots + rm.slots) (pc + 3) Ls (v.toList ++ rest)) : Go l Z n0 R own nm code mL ret (IW Z EL s₀ lo Sf) (FW Z EL s₀ n0 R Q) h cells slots pc Ls st := by
  intro p e s m args below meth c T locs hx hZ ho hn hc hm hr' hk X N eT hJ
  obtain ⟨vm0, k0, rfl, hZ0, hS, hkk, hCC, hSfe⟩ := hJ
  obtain ⟨v, _, ⟨T', L', k', n''⟩, -, X', hS2, hg2, ⟨Lc, ⟨N', hQ'⟩, l1, l2, l3, hC'⟩, stp⟩ := X.specialBackS hx (y := (⟨o', "<init>", d'⟩ : MethodName)) rfl ho (mvT hZ w1) (mvT hZ w2) (mvT hZ w4) hy (backW (W := (rest.map fun v => v.category).sum) hC hZ0 w4 w3 hf hlo hEL hCC.1 (fun x q => ⟨(hSc x q).2, hSfe x (hSc x q).1⟩)) (g := mkF m pc Ls st) rfl (hsz.trans hm.symm) (Steps.refl _) (a := a) (argsL := as') (rest := rest) (lenOf hpd hlen) hst (by show 2 * 0 + _ ≤ _; omega) (hb hc hd) (fun _ _ => ⟨rfl, eT, hc1, hs1⟩)
  dsimp only [Pt.U, Pt.locs, Pt.cells, Pt.slots] at X' l1 l2 l3 stp hQ' hS2 hg2 hC'
  subst l1 l2 l3
  rw [eT] at hg2
  obtain ⟨r1, r2, r3, J'⟩ := afterW Sf' hZ0 hS hkk hCC hSfe hSf ho X' hS2 hg2 hC'
  obtain ⟨s₂, v2, L, h1, r⟩ := hr v T'.heap hQ' hg2 p e _ m args below meth c T' _ hx r2 r3 hn hc hm hr' hk r1 (Fr.app N N') rfl J'
  exact ⟨s₂, v2, L, stp.trans h1, r⟩
theorem GW.callV {o' n' d' C oz : String} {bytes : ByteArray} {mL' index : Nat} {rt : Option FieldType} {rm : Room} (Sf' Sc : List Addr) (a : Addr) (as' rest : List Value) {Q' : Option Value → Heap → Prop} {ps : List FieldType} {r : Option FieldType}
    (hC : CtW l Z EL n0 oz n' d' [] bytes mL' rt rm (.ref a :: as').toArray h Sc Q') (E : Exa Z h a C) (hEL : EW Z a0 EL) (hSc : ∀ x ∈ Sc, (lo ≤ x ∨ x ∈ Sf) ∧ x < h.size) (hSf : ∀ x ∈ Sf', (lo ≤ x ∨ x ∈ Sf) ∧ x < h.size) (w1 : (Cond.methodLink own index (⟨o', n', d'⟩ : MethodName)).before a0 Z = true) (w2 : (Cond.declares (⟨o', n', d'⟩ : MethodName)).before a0 Z = true) (nf : ∀ s : State, Z.Warmed39 s.vm → NotFace s (⟨o', n', d'⟩ : MethodName)) (w3 : (Cond.selects C (⟨o', n', d'⟩ : MethodName) (⟨oz, n', d'⟩ : MethodName)).before a0 Z = true) (w4 : (Cond.instanceMethod (⟨oz, n', d'⟩ : MethodName)).before a0 Z = true) (w5 : (Cond.initialized oz).before a0 Z = true) (w6 : (Cond.code (⟨oz, n', d'⟩ : MethodName) bytes mL' rt).before a0 Z = true)
    (hy : o' ≠ "java/lang/invoke/MethodHandle" ∧ o' ≠ "java/lang/invoke/VarHandle") (hpd : parseMethodDescriptor d' = some ⟨ps, r⟩) (hlen : as'.length = ps.length) (hst : st = as'.reverse ++ .ref a :: rest) (hsz : Ls.size = mL) (hf : rm.frames + 1 ≤ R.frames) (hlo : (rest.map fun v => v.category).sum + (mL' + 11) + rm.locals ≤ R.locals) (hc1 : cells + rm.cells ≤ R.cells) (hs1 : slots + rm.slots ≤ R.slots)
    (hd : decode code pc = .ok (.invokevirtual index, 3)) (hr : ∀ v h', Q' v h' → h.size ≤ h'.size → Go l Z n0 R own nm code mL ret (IW Z EL s₀ h'.size Sf') (FW Z EL s₀ n0 R Q) h' (cells + rm.cells) (slots + rm.slots) (pc + 3) Ls (v.toList ++ rest)) : Go l Z n0 R own nm code mL ret (IW Z EL s₀ lo Sf) (FW Z EL s₀ n0 R Q) h cells slots pc Ls st := by
  intro p e s m args below meth c T locs hx hZ ho hn hc hm hr' hk X N eT hJ
  obtain ⟨vm0, k0, rfl, hZ0, hS, hkk, hCC, hSfe⟩ := hJ
  obtain ⟨cq, kq, qa, qb, qc⟩ := isOf hZ eT E
  obtain ⟨v, _, ⟨T', L', k', n''⟩, -, X', hS2, hg2, ⟨Lc, ⟨N', hQ'⟩, l1, l2, l3, hC'⟩, stp⟩ := X.virtualBackS hx (y := (⟨o', n', d'⟩ : MethodName)) (z := (⟨oz, n', d'⟩ : MethodName)) ho (mvT hZ w1) (mvT hZ w2) (nf _ hZ) (mvT hZ w3) (mvT hZ w4) hy (backW (W := (rest.map fun v => v.category).sum) hC hZ0 w6 w5 hf hlo hEL hCC.1 (fun x q => ⟨(hSc x q).2, hSfe x (hSc x q).1⟩)) qa qc (g := mkF m pc Ls st) rfl (hsz.trans hm.symm) (Steps.refl _) (argsL := as') (rest := rest) (lenOf hpd hlen) hst (by show 2 * 0 + _ ≤ _; omega) (hb hc hd) (fun _ _ => ⟨rfl, eT, hc1, hs1⟩)
  dsimp only [Pt.U, Pt.locs, Pt.cells, Pt.slots] at X' l1 l2 l3 stp hQ' hS2 hg2 hC'
  subst l1 l2 l3
  rw [eT] at hg2
  obtain ⟨r1, r2, r3, J'⟩ := afterW Sf' hZ0 hS hkk hCC hSfe hSf ho X' hS2 hg2 hC'
  obtain ⟨s₂, v2, L, h1, r⟩ := hr v T'.heap hQ' hg2 p e _ m args below meth c T' _ hx r2 r3 hn hc hm hr' hk r1 (Fr.app N N') rfl J'
  exact ⟨s₂, v2, L, stp.trans h1, r⟩
end Wide
end Jvm.Own
namespace Jvm.Own
open Jvm Jvm.ClassFile Sem Op Lib Jvm.Free Jvm.Stand Jvm.LawKit Jvm.RoadKit Bundle
/-- a field of an object that a term names holds the int that the case says -/
theorem fld_says {s : State} {args : Array Value} {t : Term} {a : Addr} {k : Int32} {C n d : String} (ev : t.eval args s none [] s = some (.ref a)) (h : (Cond.eq (Term.field t C n d) (Term.int k)).value args s none s [] = some true) : Fld s s.heap a C n d (.int k) := by
  obtain ⟨x, y, e1, e2, hk, hk'⟩ := cmp_v (Or.inl h)
  cases (show some (Value.int k) = some y from e2)
  obtain ⟨z, rfl⟩ := hk'
  have : z = k := by simpa [Cond.value, e1, e2] using h
  subst this
  exact Fld.start ((fld_at ev).symm.trans e1)
end Jvm.Own
namespace Jvm.Own
open Jvm Jvm.ClassFile Sem Op Lib Jvm.Free Jvm.Stand Jvm.LawKit Jvm.RoadKit Bundle
theorem len_says {s : State} {args : Array Value} {t : Term} {a : Addr} {c : Cell} {ty : FieldType} {z : Int32} (ev : t.eval args s none [] s = some (.ref a)) (A : Arr s s.heap a c ty) (e : (Term.length t).eval args s none [] s = some (.int z)) : c.slots.size < 2 ^ 31 ∧ c.slots.size.toInt32 = z := by
  have hA := A.fin (Vm.Alike.refl _)
  by_cases hl : c.slots.size < 2 ^ 31
  · rw [len_f ev hA hl] at e
    exact ⟨hl, by injection e with e; injection e⟩
  · simp [Term.eval, ev, hA, hl] at e
theorem sub_at {s : State} {args : Array Value} {j k : Int32} (hj : ¬ j < 0) : (Term.sub (Term.index 0) (Term.int k)).eval args s none [j.toNatClampNeg] s = some (.int (j - k)) := by
  have h := idx_at (args := args) (s := s) (first := s) (o := none) hj
  simp [Term.eval] at h ⊢
  rw [h]
end Jvm.Own
namespace Jvm.Pilot.@@N@@
open Jvm Jvm.ClassFile Sem Op Lib Jvm.Free Jvm.Stand Jvm.LawKit Jvm.RoadKit Bundle Jvm.Own Jvm.Pilot.@@N@@.Jvm.D
theorem wd_0 {Z : State} {a0 : Array Value} (hw : ∀ d ∈ tables_1, d.before a0 Z = true) : (Jvm.Cond.constant "com/example/vestry/vestry/ObjectNameOfPinLaw" (7 : Nat) (65535 : Int32)).before a0 Z = true := hw _ (List.mem_of_getElem? (i := 0) rfl)
theorem wd_1 {Z : State} {a0 : Array Value} (hw : ∀ d ∈ tables_1, d.before a0 Z = true) : (Jvm.Cond.classLink "com/example/vestry/vestry/ObjectNameOfPinLaw" (8 : Nat) "java/lang/String").before a0 Z = true := hw _ (List.mem_of_getElem? (i := 1) rfl)
theorem wd_2 {Z : State} {a0 : Array Value} (hw : ∀ d ∈ tables_1, d.before a0 Z = true) : (Jvm.Cond.instantiable "java/lang/String" (4 : Nat)).before a0 Z = true := hw _ (List.mem_of_getElem? (i := 2) rfl)
theorem wd_3 {Z : State} {a0 : Array Value} (hw : ∀ d ∈ tables_1, d.before a0 Z = true) : (Jvm.Cond.initialized "java/lang/String").before a0 Z = true := hw _ (List.mem_of_getElem? (i := 3) rfl)
theorem wd_4 {Z : State} {a0 : Array Value} (hw : ∀ d ∈ tables_1, d.before a0 Z = true) : (Jvm.Cond.arrayClass Jvm.ClassFile.FieldType.char).before a0 Z = true := hw _ (List.mem_of_getElem? (i := 4) rfl)
theorem wd_5 {Z : State} {a0 : Array Value} (hw : ∀ d ∈ tables_1, d.before a0 Z = true) : (Jvm.Cond.methodLink "com/example/vestry/vestry/ObjectNameOfPinLaw" (10 : Nat) ({ cls := "java/lang/String", name := "<init>", desc := "([C)V" } : Jvm.MethodName)).before a0 Z = true := hw _ (List.mem_of_getElem? (i := 5) rfl)
theorem wd_6 {Z : State} {a0 : Array Value} (hw : ∀ d ∈ tables_1, d.before a0 Z = true) : (Jvm.Cond.instanceMethod ({ cls := "java/lang/String", name := "<init>", desc := "([C)V" } : Jvm.MethodName)).before a0 Z = true := hw _ (List.mem_of_getElem? (i := 6) rfl)
theorem wd_7 {Z : State} {a0 : Array Value} (hw : ∀ d ∈ tables_1, d.before a0 Z = true) : (Jvm.Cond.code ({ cls := "java/lang/String", name := "<init>", desc := "([C)V" } : Jvm.MethodName) jdk_42_method_3_code (2 : Nat) (Option.none : Option Jvm.ClassFile.FieldType)).before a0 Z = true := hw _ (List.mem_of_getElem? (i := 7) rfl)
theorem wd_8 {Z : State} {a0 : Array Value} (hw : ∀ d ∈ tables_1, d.before a0 Z = true) : (Jvm.Cond.methodLink "java/lang/String" (27 : Nat) ({ cls := "java/lang/String", name := "<init>", desc := "([CIILjava/lang/Void;)V" } : Jvm.MethodName)).before a0 Z = true := hw _ (List.mem_of_getElem? (i := 8) rfl)
theorem wd_9 {Z : State} {a0 : Array Value} (hw : ∀ d ∈ tables_1, d.before a0 Z = true) : (Jvm.Cond.instanceMethod ({ cls := "java/lang/String", name := "<init>", desc := "([CIILjava/lang/Void;)V" } : Jvm.MethodName)).before a0 Z = true := hw _ (List.mem_of_getElem? (i := 9) rfl)
theorem wd_11 {Z : State} {a0 : Array Value} (hw : ∀ d ∈ tables_1, d.before a0 Z = true) : (Jvm.Cond.code ({ cls := "java/lang/String", name := "<init>", desc := "([CIILjava/lang/Void;)V" } : Jvm.MethodName) jdk_42_method_149_code (6 : Nat) (Option.none : Option Jvm.ClassFile.FieldType)).before a0 Z = true := hw _ (List.mem_of_getElem? (i := 11) rfl)
theorem wd_12 {Z : State} {a0 : Array Value} (hw : ∀ d ∈ tables_1, d.before a0 Z = true) : (Jvm.Cond.methodLink "java/lang/String" (1 : Nat) ({ cls := "java/lang/Object", name := "<init>", desc := "()V" } : Jvm.MethodName)).before a0 Z = true := hw _ (List.mem_of_getElem? (i := 12) rfl)
theorem wd_13 {Z : State} {a0 : Array Value} (hw : ∀ d ∈ tables_1, d.before a0 Z = true) : (Jvm.Cond.instanceMethod ({ cls := "java/lang/Object", name := "<init>", desc := "()V" } : Jvm.MethodName)).before a0 Z = true := hw _ (List.mem_of_getElem? (i := 13) rfl)
theorem wd_14 {Z : State} {a0 : Array Value} (hw : ∀ d ∈ tables_1, d.before a0 Z = true) : (Jvm.Cond.code ({ cls := "java/lang/Object", name := "<init>", desc := "()V" } : Jvm.MethodName) object_method_1_code (1 : Nat) (Option.none : Option Jvm.ClassFile.FieldType)).before a0 Z = true := hw _ (List.mem_of_getElem? (i := 14) rfl)
theorem wd_15 {Z : State} {a0 : Array Value} (hw : ∀ d ∈ tables_1, d.before a0 Z = true) : (Jvm.Cond.fieldLink "java/lang/String" (38 : Nat) "java/lang/String" "COMPACT_STRINGS" "Z").before a0 Z = true := hw _ (List.mem_of_getElem? (i := 15) rfl)
theorem wd_16 {Z : State} {a0 : Array Value} (hw : ∀ d ∈ tables_1, d.before a0 Z = true) : (Jvm.Cond.methodLink "java/lang/String" (177 : Nat) ({ cls := "java/lang/StringUTF16", name := "compress", desc := "([CII)[B" } : Jvm.MethodName)).before a0 Z = true := hw _ (List.mem_of_getElem? (i := 16) rfl)
theorem wd_17 {Z : State} {a0 : Array Value} (hw : ∀ d ∈ tables_1, d.before a0 Z = true) : (Jvm.Cond.static ({ cls := "java/lang/StringUTF16", name := "compress", desc := "([CII)[B" } : Jvm.MethodName)).before a0 Z = true := hw _ (List.mem_of_getElem? (i := 17) rfl)
theorem wd_18 {Z : State} {a0 : Array Value} (hw : ∀ d ∈ tables_1, d.before a0 Z = true) : (Jvm.Cond.initialized "java/lang/StringUTF16").before a0 Z = true := hw _ (List.mem_of_getElem? (i := 18) rfl)
theorem wd_19 {Z : State} {a0 : Array Value} (hw : ∀ d ∈ tables_1, d.before a0 Z = true) : (Jvm.Cond.code ({ cls := "java/lang/StringUTF16", name := "compress", desc := "([CII)[B" } : Jvm.MethodName) jdk_52_method_16_code (6 : Nat) (Option.some (Jvm.ClassFile.FieldType.array Jvm.ClassFile.FieldType.byte))).before a0 Z = true := hw _ (List.mem_of_getElem? (i := 19) rfl)
theorem wd_20 {Z : State} {a0 : Array Value} (hw : ∀ d ∈ tables_1, d.before a0 Z = true) : (Jvm.Cond.arrayClass Jvm.ClassFile.FieldType.byte).before a0 Z = true := hw _ (List.mem_of_getElem? (i := 20) rfl)
theorem wd_21 {Z : State} {a0 : Array Value} (hw : ∀ d ∈ tables_1, d.before a0 Z = true) : (Jvm.Cond.methodLink "java/lang/StringUTF16" (115 : Nat) ({ cls := "java/lang/StringUTF16", name := "compress", desc := "([CI[BII)I" } : Jvm.MethodName)).before a0 Z = true := hw _ (List.mem_of_getElem? (i := 21) rfl)
theorem wd_22 {Z : State} {a0 : Array Value} (hw : ∀ d ∈ tables_1, d.before a0 Z = true) : (Jvm.Cond.static ({ cls := "java/lang/StringUTF16", name := "compress", desc := "([CI[BII)I" } : Jvm.MethodName)).before a0 Z = true := hw _ (List.mem_of_getElem? (i := 22) rfl)
theorem wd_23 {Z : State} {a0 : Array Value} (hw : ∀ d ∈ tables_1, d.before a0 Z = true) : (Jvm.Cond.code ({ cls := "java/lang/StringUTF16", name := "compress", desc := "([CI[BII)I" } : Jvm.MethodName) jdk_52_method_21_code (7 : Nat) (Option.some Jvm.ClassFile.FieldType.int)).before a0 Z = true := hw _ (List.mem_of_getElem? (i := 23) rfl)
theorem wd_24 {Z : State} {a0 : Array Value} (hw : ∀ d ∈ tables_1, d.before a0 Z = true) : (Jvm.Cond.methodLink "java/lang/String" (47 : Nat) ({ cls := "java/lang/StringUTF16", name := "coderFromArrayLen", desc := "([BI)B" } : Jvm.MethodName)).before a0 Z = true := hw _ (List.mem_of_getElem? (i := 24) rfl)
theorem wd_25 {Z : State} {a0 : Array Value} (hw : ∀ d ∈ tables_1, d.before a0 Z = true) : (Jvm.Cond.static ({ cls := "java/lang/StringUTF16", name := "coderFromArrayLen", desc := "([BI)B" } : Jvm.MethodName)).before a0 Z = true := hw _ (List.mem_of_getElem? (i := 25) rfl)
theorem wd_26 {Z : State} {a0 : Array Value} (hw : ∀ d ∈ tables_1, d.before a0 Z = true) : (Jvm.Cond.code ({ cls := "java/lang/StringUTF16", name := "coderFromArrayLen", desc := "([BI)B" } : Jvm.MethodName) jdk_52_method_15_code (2 : Nat) (Option.some Jvm.ClassFile.FieldType.byte)).before a0 Z = true := hw _ (List.mem_of_getElem? (i := 26) rfl)
theorem wd_27 {Z : State} {a0 : Array Value} (hw : ∀ d ∈ tables_1, d.before a0 Z = true) : (Jvm.Cond.fieldLink "java/lang/String" (15 : Nat) "java/lang/String" "coder" "B").before a0 Z = true := hw _ (List.mem_of_getElem? (i := 27) rfl)
theorem wd_28 {Z : State} {a0 : Array Value} (hw : ∀ d ∈ tables_1, d.before a0 Z = true) : (Jvm.Cond.laysFinal "java/lang/String" "java/lang/String" "coder" "B").before a0 Z = true := hw _ (List.mem_of_getElem? (i := 28) rfl)
theorem wd_29 {Z : State} {a0 : Array Value} (hw : ∀ d ∈ tables_1, d.before a0 Z = true) : (Jvm.Cond.fieldLink "java/lang/String" (9 : Nat) "java/lang/String" "value" "[B").before a0 Z = true := hw _ (List.mem_of_getElem? (i := 29) rfl)
theorem wd_30 {Z : State} {a0 : Array Value} (hw : ∀ d ∈ tables_1, d.before a0 Z = true) : (Jvm.Cond.laysFinal "java/lang/String" "java/lang/String" "value" "[B").before a0 Z = true := hw _ (List.mem_of_getElem? (i := 30) rfl)
theorem wd_31 {Z : State} {a0 : Array Value} (hw : ∀ d ∈ tables_1, d.before a0 Z = true) : (Jvm.Cond.methodLink "com/example/vestry/vestry/ObjectNameOfPinLaw" (13 : Nat) ({ cls := "com/example/vestry/vestry/ObjectName", name := "of", desc := "(Ljava/lang/String;Ljava/lang/String;)Lcom/example/vestry/vestry/ObjectName;" } : Jvm.MethodName)).before a0 Z = true := hw _ (List.mem_of_getElem? (i := 31) rfl)
theorem wd_32 {Z : State} {a0 : Array Value} (hw : ∀ d ∈ tables_1, d.before a0 Z = true) : (Jvm.Cond.static ({ cls := "com/example/vestry/vestry/ObjectName", name := "of", desc := "(Ljava/lang/String;Ljava/lang/String;)Lcom/example/vestry/vestry/ObjectName;" } : Jvm.MethodName)).before a0 Z = true := hw _ (List.mem_of_getElem? (i := 32) rfl)
theorem wd_33 {Z : State} {a0 : Array Value} (hw : ∀ d ∈ tables_1, d.before a0 Z = true) : (Jvm.Cond.initialized "com/example/vestry/vestry/ObjectName").before a0 Z = true := hw _ (List.mem_of_getElem? (i := 33) rfl)
theorem wd_34 {Z : State} {a0 : Array Value} (hw : ∀ d ∈ tables_1, d.before a0 Z = true) : (Jvm.Cond.code ({ cls := "com/example/vestry/vestry/ObjectName", name := "of", desc := "(Ljava/lang/String;Ljava/lang/String;)Lcom/example/vestry/vestry/ObjectName;" } : Jvm.MethodName) prog_58_method_2_code (2 : Nat) (Option.some (Jvm.ClassFile.FieldType.object "com/example/vestry/vestry/ObjectName"))).before a0 Z = true := hw _ (List.mem_of_getElem? (i := 34) rfl)
theorem wd_35 {Z : State} {a0 : Array Value} (hw : ∀ d ∈ tables_1, d.before a0 Z = true) : (Jvm.Cond.classLink "com/example/vestry/vestry/ObjectName" (8 : Nat) "com/example/vestry/vestry/ObjectName").before a0 Z = true := hw _ (List.mem_of_getElem? (i := 35) rfl)
theorem wd_36 {Z : State} {a0 : Array Value} (hw : ∀ d ∈ tables_1, d.before a0 Z = true) : (Jvm.Cond.instantiable "com/example/vestry/vestry/ObjectName" (4 : Nat)).before a0 Z = true := hw _ (List.mem_of_getElem? (i := 36) rfl)
theorem wd_37 {Z : State} {a0 : Array Value} (hw : ∀ d ∈ tables_1, d.before a0 Z = true) : (Jvm.Cond.methodLink "com/example/vestry/vestry/ObjectName" (24 : Nat) ({ cls := "com/example/vestry/vestry/ObjectName", name := "<init>", desc := "(Lcom/example/vestry/vestry/ObjectName;Ljava/lang/String;Ljava/lang/String;I)V" } : Jvm.MethodName)).before a0 Z = true := hw _ (List.mem_of_getElem? (i := 37) rfl)
theorem wd_38 {Z : State} {a0 : Array Value} (hw : ∀ d ∈ tables_1, d.before a0 Z = true) : (Jvm.Cond.instanceMethod ({ cls := "com/example/vestry/vestry/ObjectName", name := "<init>", desc := "(Lcom/example/vestry/vestry/ObjectName;Ljava/lang/String;Ljava/lang/String;I)V" } : Jvm.MethodName)).before a0 Z = true := hw _ (List.mem_of_getElem? (i := 38) rfl)
theorem wd_39 {Z : State} {a0 : Array Value} (hw : ∀ d ∈ tables_1, d.before a0 Z = true) : (Jvm.Cond.code ({ cls := "com/example/vestry/vestry/ObjectName", name := "<init>", desc := "(Lcom/example/vestry/vestry/ObjectName;Ljava/lang/String;Ljava/lang/String;I)V" } : Jvm.MethodName) prog_58_method_1_code (5 : Nat) (Option.none : Option Jvm.ClassFile.FieldType)).before a0 Z = true := hw _ (List.mem_of_getElem? (i := 39) rfl)
theorem wd_40 {Z : State} {a0 : Array Value} (hw : ∀ d ∈ tables_1, d.before a0 Z = true) : (Jvm.Cond.methodLink "com/example/vestry/vestry/ObjectName" (1 : Nat) ({ cls := "java/lang/Record", name := "<init>", desc := "()V" } : Jvm.MethodName)).before a0 Z = true := hw _ (List.mem_of_getElem? (i := 40) rfl)
theorem wd_41 {Z : State} {a0 : Array Value} (hw : ∀ d ∈ tables_1, d.before a0 Z = true) : (Jvm.Cond.instanceMethod ({ cls := "java/lang/Record", name := "<init>", desc := "()V" } : Jvm.MethodName)).before a0 Z = true := hw _ (List.mem_of_getElem? (i := 41) rfl)
theorem wd_43 {Z : State} {a0 : Array Value} (hw : ∀ d ∈ tables_1, d.before a0 Z = true) : (Jvm.Cond.initialized "java/lang/Record").before a0 Z = true := hw _ (List.mem_of_getElem? (i := 43) rfl)
theorem wd_44 {Z : State} {a0 : Array Value} (hw : ∀ d ∈ tables_1, d.before a0 Z = true) : (Jvm.Cond.code ({ cls := "java/lang/Record", name := "<init>", desc := "()V" } : Jvm.MethodName) jdk_30_method_1_code (1 : Nat) (Option.none : Option Jvm.ClassFile.FieldType)).before a0 Z = true := hw _ (List.mem_of_getElem? (i := 44) rfl)
theorem wd_45 {Z : State} {a0 : Array Value} (hw : ∀ d ∈ tables_1, d.before a0 Z = true) : (Jvm.Cond.methodLink "java/lang/Record" (1 : Nat) ({ cls := "java/lang/Object", name := "<init>", desc := "()V" } : Jvm.MethodName)).before a0 Z = true := hw _ (List.mem_of_getElem? (i := 45) rfl)
theorem wd_46 {Z : State} {a0 : Array Value} (hw : ∀ d ∈ tables_1, d.before a0 Z = true) : (Jvm.Cond.fieldLink "com/example/vestry/vestry/ObjectName" (7 : Nat) "com/example/vestry/vestry/ObjectName" "within" "Lcom/example/vestry/vestry/ObjectName;").before a0 Z = true := hw _ (List.mem_of_getElem? (i := 46) rfl)
theorem wd_47 {Z : State} {a0 : Array Value} (hw : ∀ d ∈ tables_1, d.before a0 Z = true) : (Jvm.Cond.laysFinal "com/example/vestry/vestry/ObjectName" "com/example/vestry/vestry/ObjectName" "within" "Lcom/example/vestry/vestry/ObjectName;").before a0 Z = true := hw _ (List.mem_of_getElem? (i := 47) rfl)
theorem wd_48 {Z : State} {a0 : Array Value} (hw : ∀ d ∈ tables_1, d.before a0 Z = true) : (Jvm.Cond.fieldLink "com/example/vestry/vestry/ObjectName" (13 : Nat) "com/example/vestry/vestry/ObjectName" "kind" "Ljava/lang/String;").before a0 Z = true := hw _ (List.mem_of_getElem? (i := 48) rfl)
theorem wd_49 {Z : State} {a0 : Array Value} (hw : ∀ d ∈ tables_1, d.before a0 Z = true) : (Jvm.Cond.laysFinal "com/example/vestry/vestry/ObjectName" "com/example/vestry/vestry/ObjectName" "kind" "Ljava/lang/String;").before a0 Z = true := hw _ (List.mem_of_getElem? (i := 49) rfl)
theorem wd_50 {Z : State} {a0 : Array Value} (hw : ∀ d ∈ tables_1, d.before a0 Z = true) : (Jvm.Cond.fieldLink "com/example/vestry/vestry/ObjectName" (17 : Nat) "com/example/vestry/vestry/ObjectName" "id" "Ljava/lang/String;").before a0 Z = true := hw _ (List.mem_of_getElem? (i := 50) rfl)
theorem wd_51 {Z : State} {a0 : Array Value} (hw : ∀ d ∈ tables_1, d.before a0 Z = true) : (Jvm.Cond.laysFinal "com/example/vestry/vestry/ObjectName" "com/example/vestry/vestry/ObjectName" "id" "Ljava/lang/String;").before a0 Z = true := hw _ (List.mem_of_getElem? (i := 51) rfl)
theorem wd_52 {Z : State} {a0 : Array Value} (hw : ∀ d ∈ tables_1, d.before a0 Z = true) : (Jvm.Cond.fieldLink "com/example/vestry/vestry/ObjectName" (20 : Nat) "com/example/vestry/vestry/ObjectName" "index" "I").before a0 Z = true := hw _ (List.mem_of_getElem? (i := 52) rfl)
theorem wd_53 {Z : State} {a0 : Array Value} (hw : ∀ d ∈ tables_1, d.before a0 Z = true) : (Jvm.Cond.laysFinal "com/example/vestry/vestry/ObjectName" "com/example/vestry/vestry/ObjectName" "index" "I").before a0 Z = true := hw _ (List.mem_of_getElem? (i := 53) rfl)
theorem wd_54 {Z : State} {a0 : Array Value} (hw : ∀ d ∈ tables_1, d.before a0 Z = true) : (Jvm.Cond.methodLink "com/example/vestry/vestry/ObjectNameOfPinLaw" (19 : Nat) ({ cls := "com/example/vestry/vestry/ObjectName", name := "within", desc := "()Lcom/example/vestry/vestry/ObjectName;" } : Jvm.MethodName)).before a0 Z = true := hw _ (List.mem_of_getElem? (i := 54) rfl)
theorem wd_55 {Z : State} {a0 : Array Value} (hw : ∀ d ∈ tables_1, d.before a0 Z = true) : (Jvm.Cond.declares ({ cls := "com/example/vestry/vestry/ObjectName", name := "within", desc := "()Lcom/example/vestry/vestry/ObjectName;" } : Jvm.MethodName)).before a0 Z = true := hw _ (List.mem_of_getElem? (i := 55) rfl)
theorem wd_56 {Z : State} {a0 : Array Value} (hw : ∀ d ∈ tables_1, d.before a0 Z = true) : (Jvm.Cond.instanceMethod ({ cls := "com/example/vestry/vestry/ObjectName", name := "within", desc := "()Lcom/example/vestry/vestry/ObjectName;" } : Jvm.MethodName)).before a0 Z = true := hw _ (List.mem_of_getElem? (i := 56) rfl)
theorem wd_57 {Z : State} {a0 : Array Value} (hw : ∀ d ∈ tables_1, d.before a0 Z = true) : (Jvm.Cond.selects "com/example/vestry/vestry/ObjectName" ({ cls := "com/example/vestry/vestry/ObjectName", name := "within", desc := "()Lcom/example/vestry/vestry/ObjectName;" } : Jvm.MethodName) ({ cls := "com/example/vestry/vestry/ObjectName", name := "within", desc := "()Lcom/example/vestry/vestry/ObjectName;" } : Jvm.MethodName)).before a0 Z = true := hw _ (List.mem_of_getElem? (i := 57) rfl)
theorem wd_58 {Z : State} {a0 : Array Value} (hw : ∀ d ∈ tables_1, d.before a0 Z = true) : (Jvm.Cond.code ({ cls := "com/example/vestry/vestry/ObjectName", name := "within", desc := "()Lcom/example/vestry/vestry/ObjectName;" } : Jvm.MethodName) prog_58_method_9_code (1 : Nat) (Option.some (Jvm.ClassFile.FieldType.object "com/example/vestry/vestry/ObjectName"))).before a0 Z = true := hw _ (List.mem_of_getElem? (i := 58) rfl)
theorem wd_59 {Z : State} {a0 : Array Value} (hw : ∀ d ∈ tables_1, d.before a0 Z = true) : (Jvm.Cond.methodLink "com/example/vestry/vestry/ObjectNameOfPinLaw" (23 : Nat) ({ cls := "com/example/vestry/vestry/ObjectName", name := "kind", desc := "()Ljava/lang/String;" } : Jvm.MethodName)).before a0 Z = true := hw _ (List.mem_of_getElem? (i := 59) rfl)
theorem wd_60 {Z : State} {a0 : Array Value} (hw : ∀ d ∈ tables_1, d.before a0 Z = true) : (Jvm.Cond.declares ({ cls := "com/example/vestry/vestry/ObjectName", name := "kind", desc := "()Ljava/lang/String;" } : Jvm.MethodName)).before a0 Z = true := hw _ (List.mem_of_getElem? (i := 60) rfl)
theorem wd_61 {Z : State} {a0 : Array Value} (hw : ∀ d ∈ tables_1, d.before a0 Z = true) : (Jvm.Cond.instanceMethod ({ cls := "com/example/vestry/vestry/ObjectName", name := "kind", desc := "()Ljava/lang/String;" } : Jvm.MethodName)).before a0 Z = true := hw _ (List.mem_of_getElem? (i := 61) rfl)
theorem wd_62 {Z : State} {a0 : Array Value} (hw : ∀ d ∈ tables_1, d.before a0 Z = true) : (Jvm.Cond.selects "com/example/vestry/vestry/ObjectName" ({ cls := "com/example/vestry/vestry/ObjectName", name := "kind", desc := "()Ljava/lang/String;" } : Jvm.MethodName) ({ cls := "com/example/vestry/vestry/ObjectName", name := "kind", desc := "()Ljava/lang/String;" } : Jvm.MethodName)).before a0 Z = true := hw _ (List.mem_of_getElem? (i := 62) rfl)
theorem wd_63 {Z : State} {a0 : Array Value} (hw : ∀ d ∈ tables_1, d.before a0 Z = true) : (Jvm.Cond.code ({ cls := "com/example/vestry/vestry/ObjectName", name := "kind", desc := "()Ljava/lang/String;" } : Jvm.MethodName) prog_58_method_10_code (1 : Nat) (Option.some (Jvm.ClassFile.FieldType.object "java/lang/String"))).before a0 Z = true := hw _ (List.mem_of_getElem? (i := 63) rfl)
theorem wd_64 {Z : State} {a0 : Array Value} (hw : ∀ d ∈ tables_1, d.before a0 Z = true) : (Jvm.Cond.methodLink "com/example/vestry/vestry/ObjectNameOfPinLaw" (27 : Nat) ({ cls := "java/lang/String", name := "equals", desc := "(Ljava/lang/Object;)Z" } : Jvm.MethodName)).before a0 Z = true := hw _ (List.mem_of_getElem? (i := 64) rfl)
theorem wd_65 {Z : State} {a0 : Array Value} (hw : ∀ d ∈ tables_1, d.before a0 Z = true) : (Jvm.Cond.declares ({ cls := "java/lang/String", name := "equals", desc := "(Ljava/lang/Object;)Z" } : Jvm.MethodName)).before a0 Z = true := hw _ (List.mem_of_getElem? (i := 65) rfl)
theorem wd_66 {Z : State} {a0 : Array Value} (hw : ∀ d ∈ tables_1, d.before a0 Z = true) : (Jvm.Cond.instanceMethod ({ cls := "java/lang/String", name := "equals", desc := "(Ljava/lang/Object;)Z" } : Jvm.MethodName)).before a0 Z = true := hw _ (List.mem_of_getElem? (i := 66) rfl)
theorem wd_67 {Z : State} {a0 : Array Value} (hw : ∀ d ∈ tables_1, d.before a0 Z = true) : (Jvm.Cond.selects "java/lang/String" ({ cls := "java/lang/String", name := "equals", desc := "(Ljava/lang/Object;)Z" } : Jvm.MethodName) ({ cls := "java/lang/String", name := "equals", desc := "(Ljava/lang/Object;)Z" } : Jvm.MethodName)).before a0 Z = true := hw _ (List.mem_of_getElem? (i := 67) rfl)
theorem wd_68 {Z : State} {a0 : Array Value} (hw : ∀ d ∈ tables_1, d.before a0 Z = true) : (Jvm.Cond.code ({ cls := "java/lang/String", name := "equals", desc := "(Ljava/lang/Object;)Z" } : Jvm.MethodName) jdk_42_method_66_code (3 : Nat) (Option.some Jvm.ClassFile.FieldType.boolean)).before a0 Z = true := hw _ (List.mem_of_getElem? (i := 68) rfl)
theorem wd_69 {Z : State} {a0 : Array Value} (hw : ∀ d ∈ tables_1, d.before a0 Z = true) : (Jvm.Cond.methodLink "com/example/vestry/vestry/ObjectNameOfPinLaw" (31 : Nat) ({ cls := "com/example/vestry/vestry/ObjectName", name := "id", desc := "()Ljava/lang/String;" } : Jvm.MethodName)).before a0 Z = true := hw _ (List.mem_of_getElem? (i := 69) rfl)
theorem wd_70 {Z : State} {a0 : Array Value} (hw : ∀ d ∈ tables_1, d.before a0 Z = true) : (Jvm.Cond.declares ({ cls := "com/example/vestry/vestry/ObjectName", name := "id", desc := "()Ljava/lang/String;" } : Jvm.MethodName)).before a0 Z = true := hw _ (List.mem_of_getElem? (i := 70) rfl)
theorem wd_71 {Z : State} {a0 : Array Value} (hw : ∀ d ∈ tables_1, d.before a0 Z = true) : (Jvm.Cond.instanceMethod ({ cls := "com/example/vestry/vestry/ObjectName", name := "id", desc := "()Ljava/lang/String;" } : Jvm.MethodName)).before a0 Z = true := hw _ (List.mem_of_getElem? (i := 71) rfl)
theorem wd_72 {Z : State} {a0 : Array Value} (hw : ∀ d ∈ tables_1, d.before a0 Z = true) : (Jvm.Cond.selects "com/example/vestry/vestry/ObjectName" ({ cls := "com/example/vestry/vestry/ObjectName", name := "id", desc := "()Ljava/lang/String;" } : Jvm.MethodName) ({ cls := "com/example/vestry/vestry/ObjectName", name := "id", desc := "()Ljava/lang/String;" } : Jvm.MethodName)).before a0 Z = true := hw _ (List.mem_of_getElem? (i := 72) rfl)
theorem wd_73 {Z : State} {a0 : Array Value} (hw : ∀ d ∈ tables_1, d.before a0 Z = true) : (Jvm.Cond.code ({ cls := "com/example/vestry/vestry/ObjectName", name := "id", desc := "()Ljava/lang/String;" } : Jvm.MethodName) prog_58_method_11_code (1 : Nat) (Option.some (Jvm.ClassFile.FieldType.object "java/lang/String"))).before a0 Z = true := hw _ (List.mem_of_getElem? (i := 73) rfl)
theorem wd_74 {Z : State} {a0 : Array Value} (hw : ∀ d ∈ tables_1, d.before a0 Z = true) : (Jvm.Cond.methodLink "com/example/vestry/vestry/ObjectNameOfPinLaw" (34 : Nat) ({ cls := "com/example/vestry/vestry/ObjectName", name := "index", desc := "()I" } : Jvm.MethodName)).before a0 Z = true := hw _ (List.mem_of_getElem? (i := 74) rfl)
theorem wd_75 {Z : State} {a0 : Array Value} (hw : ∀ d ∈ tables_1, d.before a0 Z = true) : (Jvm.Cond.declares ({ cls := "com/example/vestry/vestry/ObjectName", name := "index", desc := "()I" } : Jvm.MethodName)).before a0 Z = true := hw _ (List.mem_of_getElem? (i := 75) rfl)
theorem wd_76 {Z : State} {a0 : Array Value} (hw : ∀ d ∈ tables_1, d.before a0 Z = true) : (Jvm.Cond.instanceMethod ({ cls := "com/example/vestry/vestry/ObjectName", name := "index", desc := "()I" } : Jvm.MethodName)).before a0 Z = true := hw _ (List.mem_of_getElem? (i := 76) rfl)
theorem wd_77 {Z : State} {a0 : Array Value} (hw : ∀ d ∈ tables_1, d.before a0 Z = true) : (Jvm.Cond.selects "com/example/vestry/vestry/ObjectName" ({ cls := "com/example/vestry/vestry/ObjectName", name := "index", desc := "()I" } : Jvm.MethodName) ({ cls := "com/example/vestry/vestry/ObjectName", name := "index", desc := "()I" } : Jvm.MethodName)).before a0 Z = true := hw _ (List.mem_of_getElem? (i := 77) rfl)
theorem wd_78 {Z : State} {a0 : Array Value} (hw : ∀ d ∈ tables_1, d.before a0 Z = true) : (Jvm.Cond.code ({ cls := "com/example/vestry/vestry/ObjectName", name := "index", desc := "()I" } : Jvm.MethodName) prog_58_method_12_code (1 : Nat) (Option.some Jvm.ClassFile.FieldType.int)).before a0 Z = true := hw _ (List.mem_of_getElem? (i := 78) rfl)
theorem wd_79 {Z : State} {a0 : Array Value} (hw : ∀ d ∈ tables_1, d.before a0 Z = true) : (Jvm.Cond.methodLink "com/example/vestry/vestry/ObjectNameOfPinLaw" (38 : Nat) ({ cls := "com/example/vestry/vestry/ObjectName", name := "text", desc := "()Ljava/lang/String;" } : Jvm.MethodName)).before a0 Z = true := hw _ (List.mem_of_getElem? (i := 79) rfl)
theorem wd_80 {Z : State} {a0 : Array Value} (hw : ∀ d ∈ tables_1, d.before a0 Z = true) : (Jvm.Cond.declares ({ cls := "com/example/vestry/vestry/ObjectName", name := "text", desc := "()Ljava/lang/String;" } : Jvm.MethodName)).before a0 Z = true := hw _ (List.mem_of_getElem? (i := 80) rfl)
theorem wd_81 {Z : State} {a0 : Array Value} (hw : ∀ d ∈ tables_1, d.before a0 Z = true) : (Jvm.Cond.instanceMethod ({ cls := "com/example/vestry/vestry/ObjectName", name := "text", desc := "()Ljava/lang/String;" } : Jvm.MethodName)).before a0 Z = true := hw _ (List.mem_of_getElem? (i := 81) rfl)
theorem wd_82 {Z : State} {a0 : Array Value} (hw : ∀ d ∈ tables_1, d.before a0 Z = true) : (Jvm.Cond.selects "com/example/vestry/vestry/ObjectName" ({ cls := "com/example/vestry/vestry/ObjectName", name := "text", desc := "()Ljava/lang/String;" } : Jvm.MethodName) ({ cls := "com/example/vestry/vestry/ObjectName", name := "text", desc := "()Ljava/lang/String;" } : Jvm.MethodName)).before a0 Z = true := hw _ (List.mem_of_getElem? (i := 82) rfl)
theorem wd_83 {Z : State} {a0 : Array Value} (hw : ∀ d ∈ tables_1, d.before a0 Z = true) : (Jvm.Cond.code ({ cls := "com/example/vestry/vestry/ObjectName", name := "text", desc := "()Ljava/lang/String;" } : Jvm.MethodName) prog_58_method_5_code (3 : Nat) (Option.some (Jvm.ClassFile.FieldType.object "java/lang/String"))).before a0 Z = true := hw _ (List.mem_of_getElem? (i := 83) rfl)
theorem wd_84 {Z : State} {a0 : Array Value} (hw : ∀ d ∈ tables_1, d.before a0 Z = true) : (Jvm.Cond.classLink "com/example/vestry/vestry/ObjectName" (27 : Nat) "java/lang/StringBuilder").before a0 Z = true := hw _ (List.mem_of_getElem? (i := 84) rfl)
theorem wd_85 {Z : State} {a0 : Array Value} (hw : ∀ d ∈ tables_1, d.before a0 Z = true) : (Jvm.Cond.instantiable "java/lang/StringBuilder" (4 : Nat)).before a0 Z = true := hw _ (List.mem_of_getElem? (i := 85) rfl)
theorem wd_86 {Z : State} {a0 : Array Value} (hw : ∀ d ∈ tables_1, d.before a0 Z = true) : (Jvm.Cond.initialized "java/lang/StringBuilder").before a0 Z = true := hw _ (List.mem_of_getElem? (i := 86) rfl)
theorem wd_87 {Z : State} {a0 : Array Value} (hw : ∀ d ∈ tables_1, d.before a0 Z = true) : (Jvm.Cond.methodLink "com/example/vestry/vestry/ObjectName" (29 : Nat) ({ cls := "java/lang/StringBuilder", name := "<init>", desc := "()V" } : Jvm.MethodName)).before a0 Z = true := hw _ (List.mem_of_getElem? (i := 87) rfl)
theorem wd_88 {Z : State} {a0 : Array Value} (hw : ∀ d ∈ tables_1, d.before a0 Z = true) : (Jvm.Cond.instanceMethod ({ cls := "java/lang/StringBuilder", name := "<init>", desc := "()V" } : Jvm.MethodName)).before a0 Z = true := hw _ (List.mem_of_getElem? (i := 88) rfl)
theorem wd_89 {Z : State} {a0 : Array Value} (hw : ∀ d ∈ tables_1, d.before a0 Z = true) : (Jvm.Cond.code ({ cls := "java/lang/StringBuilder", name := "<init>", desc := "()V" } : Jvm.MethodName) jdk_67_method_1_code (1 : Nat) (Option.none : Option Jvm.ClassFile.FieldType)).before a0 Z = true := hw _ (List.mem_of_getElem? (i := 89) rfl)
theorem wd_90 {Z : State} {a0 : Array Value} (hw : ∀ d ∈ tables_1, d.before a0 Z = true) : (Jvm.Cond.methodLink "java/lang/StringBuilder" (1 : Nat) ({ cls := "java/lang/AbstractStringBuilder", name := "<init>", desc := "(I)V" } : Jvm.MethodName)).before a0 Z = true := hw _ (List.mem_of_getElem? (i := 90) rfl)
theorem wd_91 {Z : State} {a0 : Array Value} (hw : ∀ d ∈ tables_1, d.before a0 Z = true) : (Jvm.Cond.instanceMethod ({ cls := "java/lang/AbstractStringBuilder", name := "<init>", desc := "(I)V" } : Jvm.MethodName)).before a0 Z = true := hw _ (List.mem_of_getElem? (i := 91) rfl)
theorem wd_94 {Z : State} {a0 : Array Value} (hw : ∀ d ∈ tables_1, d.before a0 Z = true) : (Jvm.Cond.initialized "java/lang/AbstractStringBuilder").before a0 Z = true := hw _ (List.mem_of_getElem? (i := 94) rfl)
theorem wd_95 {Z : State} {a0 : Array Value} (hw : ∀ d ∈ tables_1, d.before a0 Z = true) : (Jvm.Cond.code ({ cls := "java/lang/AbstractStringBuilder", name := "<init>", desc := "(I)V" } : Jvm.MethodName) jdk_68_method_2_code (2 : Nat) (Option.none : Option Jvm.ClassFile.FieldType)).before a0 Z = true := hw _ (List.mem_of_getElem? (i := 95) rfl)
theorem wd_96 {Z : State} {a0 : Array Value} (hw : ∀ d ∈ tables_1, d.before a0 Z = true) : (Jvm.Cond.methodLink "java/lang/AbstractStringBuilder" (3 : Nat) ({ cls := "java/lang/Object", name := "<init>", desc := "()V" } : Jvm.MethodName)).before a0 Z = true := hw _ (List.mem_of_getElem? (i := 96) rfl)
theorem wd_97 {Z : State} {a0 : Array Value} (hw : ∀ d ∈ tables_1, d.before a0 Z = true) : (Jvm.Cond.fieldLink "java/lang/AbstractStringBuilder" (18 : Nat) "java/lang/String" "COMPACT_STRINGS" "Z").before a0 Z = true := hw _ (List.mem_of_getElem? (i := 97) rfl)
theorem wd_98 {Z : State} {a0 : Array Value} (hw : ∀ d ∈ tables_1, d.before a0 Z = true) : (Jvm.Cond.fieldLink "java/lang/AbstractStringBuilder" (15 : Nat) "java/lang/AbstractStringBuilder" "value" "[B").before a0 Z = true := hw _ (List.mem_of_getElem? (i := 98) rfl)
theorem wd_99 {Z : State} {a0 : Array Value} (hw : ∀ d ∈ tables_1, d.before a0 Z = true) : (Jvm.Cond.lays "java/lang/StringBuilder" "java/lang/AbstractStringBuilder" "value" "[B").before a0 Z = true := hw _ (List.mem_of_getElem? (i := 99) rfl)
theorem wd_100 {Z : State} {a0 : Array Value} (hw : ∀ d ∈ tables_1, d.before a0 Z = true) : (Jvm.Cond.fieldLink "java/lang/AbstractStringBuilder" (22 : Nat) "java/lang/AbstractStringBuilder" "coder" "B").before a0 Z = true := hw _ (List.mem_of_getElem? (i := 100) rfl)
theorem wd_101 {Z : State} {a0 : Array Value} (hw : ∀ d ∈ tables_1, d.before a0 Z = true) : (Jvm.Cond.lays "java/lang/StringBuilder" "java/lang/AbstractStringBuilder" "coder" "B").before a0 Z = true := hw _ (List.mem_of_getElem? (i := 101) rfl)
theorem wd_102 {Z : State} {a0 : Array Value} (hw : ∀ d ∈ tables_1, d.before a0 Z = true) : (Jvm.Cond.methodLink "com/example/vestry/vestry/ObjectName" (36 : Nat) ({ cls := "java/lang/StringBuilder", name := "append", desc := "(Ljava/lang/String;)Ljava/lang/StringBuilder;" } : Jvm.MethodName)).before a0 Z = true := hw _ (List.mem_of_getElem? (i := 102) rfl)
theorem wd_103 {Z : State} {a0 : Array Value} (hw : ∀ d ∈ tables_1, d.before a0 Z = true) : (Jvm.Cond.declares ({ cls := "java/lang/StringBuilder", name := "append", desc := "(Ljava/lang/String;)Ljava/lang/StringBuilder;" } : Jvm.MethodName)).before a0 Z = true := hw _ (List.mem_of_getElem? (i := 103) rfl)
theorem wd_104 {Z : State} {a0 : Array Value} (hw : ∀ d ∈ tables_1, d.before a0 Z = true) : (Jvm.Cond.instanceMethod ({ cls := "java/lang/StringBuilder", name := "append", desc := "(Ljava/lang/String;)Ljava/lang/StringBuilder;" } : Jvm.MethodName)).before a0 Z = true := hw _ (List.mem_of_getElem? (i := 104) rfl)
theorem wd_105 {Z : State} {a0 : Array Value} (hw : ∀ d ∈ tables_1, d.before a0 Z = true) : (Jvm.Cond.selects "java/lang/StringBuilder" ({ cls := "java/lang/StringBuilder", name := "append", desc := "(Ljava/lang/String;)Ljava/lang/StringBuilder;" } : Jvm.MethodName) ({ cls := "java/lang/StringBuilder", name := "append", desc := "(Ljava/lang/String;)Ljava/lang/StringBuilder;" } : Jvm.MethodName)).before a0 Z = true := hw _ (List.mem_of_getElem? (i := 105) rfl)
theorem wd_106 {Z : State} {a0 : Array Value} (hw : ∀ d ∈ tables_1, d.before a0 Z = true) : (Jvm.Cond.code ({ cls := "java/lang/StringBuilder", name := "append", desc := "(Ljava/lang/String;)Ljava/lang/StringBuilder;" } : Jvm.MethodName) jdk_67_method_7_code (2 : Nat) (Option.some (Jvm.ClassFile.FieldType.object "java/lang/StringBuilder"))).before a0 Z = true := hw _ (List.mem_of_getElem? (i := 106) rfl)
theorem wd_107 {Z : State} {a0 : Array Value} (hw : ∀ d ∈ tables_1, d.before a0 Z = true) : (Jvm.Cond.methodLink "java/lang/StringBuilder" (29 : Nat) ({ cls := "java/lang/AbstractStringBuilder", name := "append", desc := "(Ljava/lang/String;)Ljava/lang/AbstractStringBuilder;" } : Jvm.MethodName)).before a0 Z = true := hw _ (List.mem_of_getElem? (i := 107) rfl)
theorem wd_108 {Z : State} {a0 : Array Value} (hw : ∀ d ∈ tables_1, d.before a0 Z = true) : (Jvm.Cond.instanceMethod ({ cls := "java/lang/AbstractStringBuilder", name := "append", desc := "(Ljava/lang/String;)Ljava/lang/AbstractStringBuilder;" } : Jvm.MethodName)).before a0 Z = true := hw _ (List.mem_of_getElem? (i := 108) rfl)
theorem wd_109 {Z : State} {a0 : Array Value} (hw : ∀ d ∈ tables_1, d.before a0 Z = true) : (Jvm.Cond.superclass "java/lang/StringBuilder" "java/lang/AbstractStringBuilder").before a0 Z = true := hw _ (List.mem_of_getElem? (i := 109) rfl)
theorem wd_111 {Z : State} {a0 : Array Value} (hw : ∀ d ∈ tables_1, d.before a0 Z = true) : (Jvm.Cond.code ({ cls := "java/lang/AbstractStringBuilder", name := "append", desc := "(Ljava/lang/String;)Ljava/lang/AbstractStringBuilder;" } : Jvm.MethodName) jdk_68_method_22_code (3 : Nat) (Option.some (Jvm.ClassFile.FieldType.object "java/lang/AbstractStringBuilder"))).before a0 Z = true := hw _ (List.mem_of_getElem? (i := 111) rfl)
theorem wd_112 {Z : State} {a0 : Array Value} (hw : ∀ d ∈ tables_1, d.before a0 Z = true) : (Jvm.Cond.methodLink "java/lang/AbstractStringBuilder" (32 : Nat) ({ cls := "java/lang/String", name := "length", desc := "()I" } : Jvm.MethodName)).before a0 Z = true := hw _ (List.mem_of_getElem? (i := 112) rfl)
theorem wd_113 {Z : State} {a0 : Array Value} (hw : ∀ d ∈ tables_1, d.before a0 Z = true) : (Jvm.Cond.declares ({ cls := "java/lang/String", name := "length", desc := "()I" } : Jvm.MethodName)).before a0 Z = true := hw _ (List.mem_of_getElem? (i := 113) rfl)
theorem wd_114 {Z : State} {a0 : Array Value} (hw : ∀ d ∈ tables_1, d.before a0 Z = true) : (Jvm.Cond.instanceMethod ({ cls := "java/lang/String", name := "length", desc := "()I" } : Jvm.MethodName)).before a0 Z = true := hw _ (List.mem_of_getElem? (i := 114) rfl)
theorem wd_115 {Z : State} {a0 : Array Value} (hw : ∀ d ∈ tables_1, d.before a0 Z = true) : (Jvm.Cond.selects "java/lang/String" ({ cls := "java/lang/String", name := "length", desc := "()I" } : Jvm.MethodName) ({ cls := "java/lang/String", name := "length", desc := "()I" } : Jvm.MethodName)).before a0 Z = true := hw _ (List.mem_of_getElem? (i := 115) rfl)
theorem wd_116 {Z : State} {a0 : Array Value} (hw : ∀ d ∈ tables_1, d.before a0 Z = true) : (Jvm.Cond.code ({ cls := "java/lang/String", name := "length", desc := "()I" } : Jvm.MethodName) jdk_42_method_54_code (1 : Nat) (Option.some Jvm.ClassFile.FieldType.int)).before a0 Z = true := hw _ (List.mem_of_getElem? (i := 116) rfl)
theorem wd_117 {Z : State} {a0 : Array Value} (hw : ∀ d ∈ tables_1, d.before a0 Z = true) : (Jvm.Cond.methodLink "java/lang/String" (335 : Nat) ({ cls := "java/lang/String", name := "coder", desc := "()B" } : Jvm.MethodName)).before a0 Z = true := hw _ (List.mem_of_getElem? (i := 117) rfl)
theorem wd_118 {Z : State} {a0 : Array Value} (hw : ∀ d ∈ tables_1, d.before a0 Z = true) : (Jvm.Cond.declares ({ cls := "java/lang/String", name := "coder", desc := "()B" } : Jvm.MethodName)).before a0 Z = true := hw _ (List.mem_of_getElem? (i := 118) rfl)
theorem wd_119 {Z : State} {a0 : Array Value} (hw : ∀ d ∈ tables_1, d.before a0 Z = true) : (Jvm.Cond.instanceMethod ({ cls := "java/lang/String", name := "coder", desc := "()B" } : Jvm.MethodName)).before a0 Z = true := hw _ (List.mem_of_getElem? (i := 119) rfl)
theorem wd_120 {Z : State} {a0 : Array Value} (hw : ∀ d ∈ tables_1, d.before a0 Z = true) : (Jvm.Cond.selects "java/lang/String" ({ cls := "java/lang/String", name := "coder", desc := "()B" } : Jvm.MethodName) ({ cls := "java/lang/String", name := "coder", desc := "()B" } : Jvm.MethodName)).before a0 Z = true := hw _ (List.mem_of_getElem? (i := 120) rfl)
theorem wd_121 {Z : State} {a0 : Array Value} (hw : ∀ d ∈ tables_1, d.before a0 Z = true) : (Jvm.Cond.code ({ cls := "java/lang/String", name := "coder", desc := "()B" } : Jvm.MethodName) jdk_42_method_152_code (1 : Nat) (Option.some Jvm.ClassFile.FieldType.byte)).before a0 Z = true := hw _ (List.mem_of_getElem? (i := 121) rfl)
theorem wd_122 {Z : State} {a0 : Array Value} (hw : ∀ d ∈ tables_1, d.before a0 Z = true) : (Jvm.Cond.fieldLink "java/lang/AbstractStringBuilder" (79 : Nat) "java/lang/AbstractStringBuilder" "count" "I").before a0 Z = true := hw _ (List.mem_of_getElem? (i := 122) rfl)
theorem wd_123 {Z : State} {a0 : Array Value} (hw : ∀ d ∈ tables_1, d.before a0 Z = true) : (Jvm.Cond.lays "java/lang/StringBuilder" "java/lang/AbstractStringBuilder" "count" "I").before a0 Z = true := hw _ (List.mem_of_getElem? (i := 123) rfl)
theorem wd_124 {Z : State} {a0 : Array Value} (hw : ∀ d ∈ tables_1, d.before a0 Z = true) : (Jvm.Cond.methodLink "java/lang/AbstractStringBuilder" (100 : Nat) ({ cls := "java/lang/AbstractStringBuilder", name := "ensureCapacityInternal", desc := "(I)V" } : Jvm.MethodName)).before a0 Z = true := hw _ (List.mem_of_getElem? (i := 124) rfl)
theorem wd_125 {Z : State} {a0 : Array Value} (hw : ∀ d ∈ tables_1, d.before a0 Z = true) : (Jvm.Cond.instanceMethod ({ cls := "java/lang/AbstractStringBuilder", name := "ensureCapacityInternal", desc := "(I)V" } : Jvm.MethodName)).before a0 Z = true := hw _ (List.mem_of_getElem? (i := 125) rfl)
theorem wd_126 {Z : State} {a0 : Array Value} (hw : ∀ d ∈ tables_1, d.before a0 Z = true) : (Jvm.Cond.privateMethod ({ cls := "java/lang/AbstractStringBuilder", name := "ensureCapacityInternal", desc := "(I)V" } : Jvm.MethodName)).before a0 Z = true := hw _ (List.mem_of_getElem? (i := 126) rfl)
theorem wd_127 {Z : State} {a0 : Array Value} (hw : ∀ d ∈ tables_1, d.before a0 Z = true) : (Jvm.Cond.selects "java/lang/StringBuilder" ({ cls := "java/lang/AbstractStringBuilder", name := "ensureCapacityInternal", desc := "(I)V" } : Jvm.MethodName) ({ cls := "java/lang/AbstractStringBuilder", name := "ensureCapacityInternal", desc := "(I)V" } : Jvm.MethodName)).before a0 Z = true := hw _ (List.mem_of_getElem? (i := 127) rfl)
theorem wd_128 {Z : State} {a0 : Array Value} (hw : ∀ d ∈ tables_1, d.before a0 Z = true) : (Jvm.Cond.code ({ cls := "java/lang/AbstractStringBuilder", name := "ensureCapacityInternal", desc := "(I)V" } : Jvm.MethodName) jdk_68_method_9_code (3 : Nat) (Option.none : Option Jvm.ClassFile.FieldType)).before a0 Z = true := hw _ (List.mem_of_getElem? (i := 128) rfl)
theorem wd_129 {Z : State} {a0 : Array Value} (hw : ∀ d ∈ tables_1, d.before a0 Z = true) : (Jvm.Cond.methodLink "java/lang/AbstractStringBuilder" (208 : Nat) ({ cls := "java/lang/AbstractStringBuilder", name := "putStringAt", desc := "(ILjava/lang/String;)V" } : Jvm.MethodName)).before a0 Z = true := hw _ (List.mem_of_getElem? (i := 129) rfl)
theorem wd_130 {Z : State} {a0 : Array Value} (hw : ∀ d ∈ tables_1, d.before a0 Z = true) : (Jvm.Cond.instanceMethod ({ cls := "java/lang/AbstractStringBuilder", name := "putStringAt", desc := "(ILjava/lang/String;)V" } : Jvm.MethodName)).before a0 Z = true := hw _ (List.mem_of_getElem? (i := 130) rfl)
theorem wd_131 {Z : State} {a0 : Array Value} (hw : ∀ d ∈ tables_1, d.before a0 Z = true) : (Jvm.Cond.privateMethod ({ cls := "java/lang/AbstractStringBuilder", name := "putStringAt", desc := "(ILjava/lang/String;)V" } : Jvm.MethodName)).before a0 Z = true := hw _ (List.mem_of_getElem? (i := 131) rfl)
theorem wd_133 {Z : State} {a0 : Array Value} (hw : ∀ d ∈ tables_1, d.before a0 Z = true) : (Jvm.Cond.code ({ cls := "java/lang/AbstractStringBuilder", name := "putStringAt", desc := "(ILjava/lang/String;)V" } : Jvm.MethodName) jdk_68_method_73_code (3 : Nat) (Option.none : Option Jvm.ClassFile.FieldType)).before a0 Z = true := hw _ (List.mem_of_getElem? (i := 133) rfl)
theorem wd_134 {Z : State} {a0 : Array Value} (hw : ∀ d ∈ tables_1, d.before a0 Z = true) : (Jvm.Cond.methodLink "java/lang/AbstractStringBuilder" (397 : Nat) ({ cls := "java/lang/AbstractStringBuilder", name := "inflateIfNeededFor", desc := "(Ljava/lang/String;)V" } : Jvm.MethodName)).before a0 Z = true := hw _ (List.mem_of_getElem? (i := 134) rfl)
theorem wd_135 {Z : State} {a0 : Array Value} (hw : ∀ d ∈ tables_1, d.before a0 Z = true) : (Jvm.Cond.instanceMethod ({ cls := "java/lang/AbstractStringBuilder", name := "inflateIfNeededFor", desc := "(Ljava/lang/String;)V" } : Jvm.MethodName)).before a0 Z = true := hw _ (List.mem_of_getElem? (i := 135) rfl)
theorem wd_136 {Z : State} {a0 : Array Value} (hw : ∀ d ∈ tables_1, d.before a0 Z = true) : (Jvm.Cond.privateMethod ({ cls := "java/lang/AbstractStringBuilder", name := "inflateIfNeededFor", desc := "(Ljava/lang/String;)V" } : Jvm.MethodName)).before a0 Z = true := hw _ (List.mem_of_getElem? (i := 136) rfl)
theorem wd_138 {Z : State} {a0 : Array Value} (hw : ∀ d ∈ tables_1, d.before a0 Z = true) : (Jvm.Cond.code ({ cls := "java/lang/AbstractStringBuilder", name := "inflateIfNeededFor", desc := "(Ljava/lang/String;)V" } : Jvm.MethodName) jdk_68_method_71_code (2 : Nat) (Option.none : Option Jvm.ClassFile.FieldType)).before a0 Z = true := hw _ (List.mem_of_getElem? (i := 138) rfl)
theorem wd_139 {Z : State} {a0 : Array Value} (hw : ∀ d ∈ tables_1, d.before a0 Z = true) : (Jvm.Cond.methodLink "java/lang/AbstractStringBuilder" (40 : Nat) ({ cls := "java/lang/String", name := "coder", desc := "()B" } : Jvm.MethodName)).before a0 Z = true := hw _ (List.mem_of_getElem? (i := 139) rfl)
theorem wd_140 {Z : State} {a0 : Array Value} (hw : ∀ d ∈ tables_1, d.before a0 Z = true) : (Jvm.Cond.methodLink "java/lang/AbstractStringBuilder" (399 : Nat) ({ cls := "java/lang/String", name := "getBytes", desc := "([BIB)V" } : Jvm.MethodName)).before a0 Z = true := hw _ (List.mem_of_getElem? (i := 140) rfl)
theorem wd_141 {Z : State} {a0 : Array Value} (hw : ∀ d ∈ tables_1, d.before a0 Z = true) : (Jvm.Cond.declares ({ cls := "java/lang/String", name := "getBytes", desc := "([BIB)V" } : Jvm.MethodName)).before a0 Z = true := hw _ (List.mem_of_getElem? (i := 141) rfl)
theorem wd_142 {Z : State} {a0 : Array Value} (hw : ∀ d ∈ tables_1, d.before a0 Z = true) : (Jvm.Cond.instanceMethod ({ cls := "java/lang/String", name := "getBytes", desc := "([BIB)V" } : Jvm.MethodName)).before a0 Z = true := hw _ (List.mem_of_getElem? (i := 142) rfl)
theorem wd_143 {Z : State} {a0 : Array Value} (hw : ∀ d ∈ tables_1, d.before a0 Z = true) : (Jvm.Cond.selects "java/lang/String" ({ cls := "java/lang/String", name := "getBytes", desc := "([BIB)V" } : Jvm.MethodName) ({ cls := "java/lang/String", name := "getBytes", desc := "([BIB)V" } : Jvm.MethodName)).before a0 Z = true := hw _ (List.mem_of_getElem? (i := 143) rfl)
theorem wd_144 {Z : State} {a0 : Array Value} (hw : ∀ d ∈ tables_1, d.before a0 Z = true) : (Jvm.Cond.code ({ cls := "java/lang/String", name := "getBytes", desc := "([BIB)V" } : Jvm.MethodName) jdk_42_method_147_code (4 : Nat) (Option.none : Option Jvm.ClassFile.FieldType)).before a0 Z = true := hw _ (List.mem_of_getElem? (i := 144) rfl)
theorem wd_145 {Z : State} {a0 : Array Value} (hw : ∀ d ∈ tables_1, d.before a0 Z = true) : (Jvm.Cond.methodLink "java/lang/String" (212 : Nat) ({ cls := "java/lang/System", name := "arraycopy", desc := "(Ljava/lang/Object;ILjava/lang/Object;II)V" } : Jvm.MethodName)).before a0 Z = true := hw _ (List.mem_of_getElem? (i := 145) rfl)
theorem wd_146 {Z : State} {a0 : Array Value} (hw : ∀ d ∈ tables_1, d.before a0 Z = true) : (Jvm.Cond.static ({ cls := "java/lang/System", name := "arraycopy", desc := "(Ljava/lang/Object;ILjava/lang/Object;II)V" } : Jvm.MethodName)).before a0 Z = true := hw _ (List.mem_of_getElem? (i := 146) rfl)
theorem wd_147 {Z : State} {a0 : Array Value} (hw : ∀ d ∈ tables_1, d.before a0 Z = true) : (Jvm.Cond.initialized "java/lang/System").before a0 Z = true := hw _ (List.mem_of_getElem? (i := 147) rfl)
theorem wd_148 {Z : State} {a0 : Array Value} (hw : ∀ d ∈ tables_1, d.before a0 Z = true) : (Jvm.Cond.native ({ cls := "java/lang/System", name := "arraycopy", desc := "(Ljava/lang/Object;ILjava/lang/Object;II)V" } : Jvm.MethodName)).before a0 Z = true := hw _ (List.mem_of_getElem? (i := 148) rfl)
theorem wd_149 {Z : State} {a0 : Array Value} (hw : ∀ d ∈ tables_1, d.before a0 Z = true) : (Jvm.Cond.stringLink "com/example/vestry/vestry/ObjectName" (46 : Nat) "[").before a0 Z = true := hw _ (List.mem_of_getElem? (i := 149) rfl)
theorem wd_152 {Z : State} {a0 : Array Value} (hw : ∀ d ∈ tables_1, d.before a0 Z = true) : (Jvm.Cond.methodLink "com/example/vestry/vestry/ObjectName" (48 : Nat) ({ cls := "java/lang/StringBuilder", name := "append", desc := "(I)Ljava/lang/StringBuilder;" } : Jvm.MethodName)).before a0 Z = true := hw _ (List.mem_of_getElem? (i := 152) rfl)
theorem wd_153 {Z : State} {a0 : Array Value} (hw : ∀ d ∈ tables_1, d.before a0 Z = true) : (Jvm.Cond.declares ({ cls := "java/lang/StringBuilder", name := "append", desc := "(I)Ljava/lang/StringBuilder;" } : Jvm.MethodName)).before a0 Z = true := hw _ (List.mem_of_getElem? (i := 153) rfl)
theorem wd_154 {Z : State} {a0 : Array Value} (hw : ∀ d ∈ tables_1, d.before a0 Z = true) : (Jvm.Cond.instanceMethod ({ cls := "java/lang/StringBuilder", name := "append", desc := "(I)Ljava/lang/StringBuilder;" } : Jvm.MethodName)).before a0 Z = true := hw _ (List.mem_of_getElem? (i := 154) rfl)
theorem wd_155 {Z : State} {a0 : Array Value} (hw : ∀ d ∈ tables_1, d.before a0 Z = true) : (Jvm.Cond.selects "java/lang/StringBuilder" ({ cls := "java/lang/StringBuilder", name := "append", desc := "(I)Ljava/lang/StringBuilder;" } : Jvm.MethodName) ({ cls := "java/lang/StringBuilder", name := "append", desc := "(I)Ljava/lang/StringBuilder;" } : Jvm.MethodName)).before a0 Z = true := hw _ (List.mem_of_getElem? (i := 155) rfl)
theorem wd_156 {Z : State} {a0 : Array Value} (hw : ∀ d ∈ tables_1, d.before a0 Z = true) : (Jvm.Cond.code ({ cls := "java/lang/StringBuilder", name := "append", desc := "(I)Ljava/lang/StringBuilder;" } : Jvm.MethodName) jdk_67_method_15_code (2 : Nat) (Option.some (Jvm.ClassFile.FieldType.object "java/lang/StringBuilder"))).before a0 Z = true := hw _ (List.mem_of_getElem? (i := 156) rfl)
theorem wd_157 {Z : State} {a0 : Array Value} (hw : ∀ d ∈ tables_1, d.before a0 Z = true) : (Jvm.Cond.methodLink "java/lang/StringBuilder" (53 : Nat) ({ cls := "java/lang/AbstractStringBuilder", name := "append", desc := "(I)Ljava/lang/AbstractStringBuilder;" } : Jvm.MethodName)).before a0 Z = true := hw _ (List.mem_of_getElem? (i := 157) rfl)
theorem wd_158 {Z : State} {a0 : Array Value} (hw : ∀ d ∈ tables_1, d.before a0 Z = true) : (Jvm.Cond.instanceMethod ({ cls := "java/lang/AbstractStringBuilder", name := "append", desc := "(I)Ljava/lang/AbstractStringBuilder;" } : Jvm.MethodName)).before a0 Z = true := hw _ (List.mem_of_getElem? (i := 158) rfl)
theorem wd_160 {Z : State} {a0 : Array Value} (hw : ∀ d ∈ tables_1, d.before a0 Z = true) : (Jvm.Cond.code ({ cls := "java/lang/AbstractStringBuilder", name := "append", desc := "(I)Ljava/lang/AbstractStringBuilder;" } : Jvm.MethodName) jdk_68_method_32_code (4 : Nat) (Option.some (Jvm.ClassFile.FieldType.object "java/lang/AbstractStringBuilder"))).before a0 Z = true := hw _ (List.mem_of_getElem? (i := 160) rfl)
theorem wd_161 {Z : State} {a0 : Array Value} (hw : ∀ d ∈ tables_1, d.before a0 Z = true) : (Jvm.Cond.methodLink "java/lang/AbstractStringBuilder" (245 : Nat) ({ cls := "java/lang/Integer", name := "stringSize", desc := "(I)I" } : Jvm.MethodName)).before a0 Z = true := hw _ (List.mem_of_getElem? (i := 161) rfl)
theorem wd_162 {Z : State} {a0 : Array Value} (hw : ∀ d ∈ tables_1, d.before a0 Z = true) : (Jvm.Cond.static ({ cls := "java/lang/Integer", name := "stringSize", desc := "(I)I" } : Jvm.MethodName)).before a0 Z = true := hw _ (List.mem_of_getElem? (i := 162) rfl)
theorem wd_163 {Z : State} {a0 : Array Value} (hw : ∀ d ∈ tables_1, d.before a0 Z = true) : (Jvm.Cond.initialized "java/lang/Integer").before a0 Z = true := hw _ (List.mem_of_getElem? (i := 163) rfl)
theorem wd_164 {Z : State} {a0 : Array Value} (hw : ∀ d ∈ tables_1, d.before a0 Z = true) : (Jvm.Cond.code ({ cls := "java/lang/Integer", name := "stringSize", desc := "(I)I" } : Jvm.MethodName) jdk_33_method_13_code (4 : Nat) (Option.some Jvm.ClassFile.FieldType.int)).before a0 Z = true := hw _ (List.mem_of_getElem? (i := 164) rfl)
theorem wd_165 {Z : State} {a0 : Array Value} (hw : ∀ d ∈ tables_1, d.before a0 Z = true) : (Jvm.Cond.methodLink "java/lang/AbstractStringBuilder" (83 : Nat) ({ cls := "java/lang/AbstractStringBuilder", name := "isLatin1", desc := "()Z" } : Jvm.MethodName)).before a0 Z = true := hw _ (List.mem_of_getElem? (i := 165) rfl)
theorem wd_166 {Z : State} {a0 : Array Value} (hw : ∀ d ∈ tables_1, d.before a0 Z = true) : (Jvm.Cond.declares ({ cls := "java/lang/AbstractStringBuilder", name := "isLatin1", desc := "()Z" } : Jvm.MethodName)).before a0 Z = true := hw _ (List.mem_of_getElem? (i := 166) rfl)
theorem wd_167 {Z : State} {a0 : Array Value} (hw : ∀ d ∈ tables_1, d.before a0 Z = true) : (Jvm.Cond.instanceMethod ({ cls := "java/lang/AbstractStringBuilder", name := "isLatin1", desc := "()Z" } : Jvm.MethodName)).before a0 Z = true := hw _ (List.mem_of_getElem? (i := 167) rfl)
theorem wd_168 {Z : State} {a0 : Array Value} (hw : ∀ d ∈ tables_1, d.before a0 Z = true) : (Jvm.Cond.selects "java/lang/StringBuilder" ({ cls := "java/lang/AbstractStringBuilder", name := "isLatin1", desc := "()Z" } : Jvm.MethodName) ({ cls := "java/lang/AbstractStringBuilder", name := "isLatin1", desc := "()Z" } : Jvm.MethodName)).before a0 Z = true := hw _ (List.mem_of_getElem? (i := 168) rfl)
theorem wd_169 {Z : State} {a0 : Array Value} (hw : ∀ d ∈ tables_1, d.before a0 Z = true) : (Jvm.Cond.code ({ cls := "java/lang/AbstractStringBuilder", name := "isLatin1", desc := "()Z" } : Jvm.MethodName) jdk_68_method_68_code (1 : Nat) (Option.some Jvm.ClassFile.FieldType.boolean)).before a0 Z = true := hw _ (List.mem_of_getElem? (i := 169) rfl)
theorem wd_170 {Z : State} {a0 : Array Value} (hw : ∀ d ∈ tables_1, d.before a0 Z = true) : (Jvm.Cond.methodLink "java/lang/AbstractStringBuilder" (248 : Nat) ({ cls := "java/lang/Integer", name := "getChars", desc := "(II[B)I" } : Jvm.MethodName)).before a0 Z = true := hw _ (List.mem_of_getElem? (i := 170) rfl)
theorem wd_171 {Z : State} {a0 : Array Value} (hw : ∀ d ∈ tables_1, d.before a0 Z = true) : (Jvm.Cond.static ({ cls := "java/lang/Integer", name := "getChars", desc := "(II[B)I" } : Jvm.MethodName)).before a0 Z = true := hw _ (List.mem_of_getElem? (i := 171) rfl)
theorem wd_172 {Z : State} {a0 : Array Value} (hw : ∀ d ∈ tables_1, d.before a0 Z = true) : (Jvm.Cond.code ({ cls := "java/lang/Integer", name := "getChars", desc := "(II[B)I" } : Jvm.MethodName) jdk_33_method_12_code (7 : Nat) (Option.some Jvm.ClassFile.FieldType.int)).before a0 Z = true := hw _ (List.mem_of_getElem? (i := 172) rfl)
theorem wd_173 {Z : State} {a0 : Array Value} (hw : ∀ d ∈ tables_1, d.before a0 Z = true) : (Jvm.Cond.fieldLink "java/lang/Integer" (83 : Nat) "java/lang/Integer" "DigitOnes" "[B").before a0 Z = true := hw _ (List.mem_of_getElem? (i := 173) rfl)
theorem wd_174 {Z : State} {a0 : Array Value} (hw : ∀ d ∈ tables_1, d.before a0 Z = true) : (Jvm.Cond.stringLink "com/example/vestry/vestry/ObjectName" (51 : Nat) "]").before a0 Z = true := hw _ (List.mem_of_getElem? (i := 174) rfl)
theorem wd_175 {Z : State} {a0 : Array Value} (hw : ∀ d ∈ tables_1, d.before a0 Z = true) : (Jvm.Cond.methodLink "com/example/vestry/vestry/ObjectName" (43 : Nat) ({ cls := "java/lang/StringBuilder", name := "toString", desc := "()Ljava/lang/String;" } : Jvm.MethodName)).before a0 Z = true := hw _ (List.mem_of_getElem? (i := 175) rfl)
theorem wd_176 {Z : State} {a0 : Array Value} (hw : ∀ d ∈ tables_1, d.before a0 Z = true) : (Jvm.Cond.declares ({ cls := "java/lang/StringBuilder", name := "toString", desc := "()Ljava/lang/String;" } : Jvm.MethodName)).before a0 Z = true := hw _ (List.mem_of_getElem? (i := 176) rfl)
theorem wd_177 {Z : State} {a0 : Array Value} (hw : ∀ d ∈ tables_1, d.before a0 Z = true) : (Jvm.Cond.instanceMethod ({ cls := "java/lang/StringBuilder", name := "toString", desc := "()Ljava/lang/String;" } : Jvm.MethodName)).before a0 Z = true := hw _ (List.mem_of_getElem? (i := 177) rfl)
theorem wd_178 {Z : State} {a0 : Array Value} (hw : ∀ d ∈ tables_1, d.before a0 Z = true) : (Jvm.Cond.selects "java/lang/StringBuilder" ({ cls := "java/lang/StringBuilder", name := "toString", desc := "()Ljava/lang/String;" } : Jvm.MethodName) ({ cls := "java/lang/StringBuilder", name := "toString", desc := "()Ljava/lang/String;" } : Jvm.MethodName)).before a0 Z = true := hw _ (List.mem_of_getElem? (i := 178) rfl)
theorem wd_179 {Z : State} {a0 : Array Value} (hw : ∀ d ∈ tables_1, d.before a0 Z = true) : (Jvm.Cond.code ({ cls := "java/lang/StringBuilder", name := "toString", desc := "()Ljava/lang/String;" } : Jvm.MethodName) jdk_67_method_42_code (1 : Nat) (Option.some (Jvm.ClassFile.FieldType.object "java/lang/String"))).before a0 Z = true := hw _ (List.mem_of_getElem? (i := 179) rfl)
theorem wd_180 {Z : State} {a0 : Array Value} (hw : ∀ d ∈ tables_1, d.before a0 Z = true) : (Jvm.Cond.classLink "java/lang/StringBuilder" (18 : Nat) "java/lang/String").before a0 Z = true := hw _ (List.mem_of_getElem? (i := 180) rfl)
theorem wd_181 {Z : State} {a0 : Array Value} (hw : ∀ d ∈ tables_1, d.before a0 Z = true) : (Jvm.Cond.methodLink "java/lang/StringBuilder" (137 : Nat) ({ cls := "java/lang/String", name := "<init>", desc := "(Ljava/lang/StringBuilder;)V" } : Jvm.MethodName)).before a0 Z = true := hw _ (List.mem_of_getElem? (i := 181) rfl)
theorem wd_182 {Z : State} {a0 : Array Value} (hw : ∀ d ∈ tables_1, d.before a0 Z = true) : (Jvm.Cond.instanceMethod ({ cls := "java/lang/String", name := "<init>", desc := "(Ljava/lang/StringBuilder;)V" } : Jvm.MethodName)).before a0 Z = true := hw _ (List.mem_of_getElem? (i := 182) rfl)
theorem wd_183 {Z : State} {a0 : Array Value} (hw : ∀ d ∈ tables_1, d.before a0 Z = true) : (Jvm.Cond.code ({ cls := "java/lang/String", name := "<init>", desc := "(Ljava/lang/StringBuilder;)V" } : Jvm.MethodName) jdk_42_method_53_code (2 : Nat) (Option.none : Option Jvm.ClassFile.FieldType)).before a0 Z = true := hw _ (List.mem_of_getElem? (i := 183) rfl)
theorem wd_184 {Z : State} {a0 : Array Value} (hw : ∀ d ∈ tables_1, d.before a0 Z = true) : (Jvm.Cond.methodLink "java/lang/String" (489 : Nat) ({ cls := "java/lang/String", name := "<init>", desc := "(Ljava/lang/AbstractStringBuilder;Ljava/lang/Void;)V" } : Jvm.MethodName)).before a0 Z = true := hw _ (List.mem_of_getElem? (i := 184) rfl)
theorem wd_185 {Z : State} {a0 : Array Value} (hw : ∀ d ∈ tables_1, d.before a0 Z = true) : (Jvm.Cond.instanceMethod ({ cls := "java/lang/String", name := "<init>", desc := "(Ljava/lang/AbstractStringBuilder;Ljava/lang/Void;)V" } : Jvm.MethodName)).before a0 Z = true := hw _ (List.mem_of_getElem? (i := 185) rfl)
theorem wd_186 {Z : State} {a0 : Array Value} (hw : ∀ d ∈ tables_1, d.before a0 Z = true) : (Jvm.Cond.code ({ cls := "java/lang/String", name := "<init>", desc := "(Ljava/lang/AbstractStringBuilder;Ljava/lang/Void;)V" } : Jvm.MethodName) jdk_42_method_150_code (5 : Nat) (Option.none : Option Jvm.ClassFile.FieldType)).before a0 Z = true := hw _ (List.mem_of_getElem? (i := 186) rfl)
theorem wd_187 {Z : State} {a0 : Array Value} (hw : ∀ d ∈ tables_1, d.before a0 Z = true) : (Jvm.Cond.methodLink "java/lang/String" (552 : Nat) ({ cls := "java/lang/AbstractStringBuilder", name := "getValue", desc := "()[B" } : Jvm.MethodName)).before a0 Z = true := hw _ (List.mem_of_getElem? (i := 187) rfl)
theorem wd_188 {Z : State} {a0 : Array Value} (hw : ∀ d ∈ tables_1, d.before a0 Z = true) : (Jvm.Cond.declares ({ cls := "java/lang/AbstractStringBuilder", name := "getValue", desc := "()[B" } : Jvm.MethodName)).before a0 Z = true := hw _ (List.mem_of_getElem? (i := 188) rfl)
theorem wd_189 {Z : State} {a0 : Array Value} (hw : ∀ d ∈ tables_1, d.before a0 Z = true) : (Jvm.Cond.instanceMethod ({ cls := "java/lang/AbstractStringBuilder", name := "getValue", desc := "()[B" } : Jvm.MethodName)).before a0 Z = true := hw _ (List.mem_of_getElem? (i := 189) rfl)
theorem wd_190 {Z : State} {a0 : Array Value} (hw : ∀ d ∈ tables_1, d.before a0 Z = true) : (Jvm.Cond.selects "java/lang/StringBuilder" ({ cls := "java/lang/AbstractStringBuilder", name := "getValue", desc := "()[B" } : Jvm.MethodName) ({ cls := "java/lang/AbstractStringBuilder", name := "getValue", desc := "()[B" } : Jvm.MethodName)).before a0 Z = true := hw _ (List.mem_of_getElem? (i := 190) rfl)
theorem wd_191 {Z : State} {a0 : Array Value} (hw : ∀ d ∈ tables_1, d.before a0 Z = true) : (Jvm.Cond.code ({ cls := "java/lang/AbstractStringBuilder", name := "getValue", desc := "()[B" } : Jvm.MethodName) jdk_68_method_64_code (1 : Nat) (Option.some (Jvm.ClassFile.FieldType.array Jvm.ClassFile.FieldType.byte))).before a0 Z = true := hw _ (List.mem_of_getElem? (i := 191) rfl)
theorem wd_192 {Z : State} {a0 : Array Value} (hw : ∀ d ∈ tables_1, d.before a0 Z = true) : (Jvm.Cond.methodLink "java/lang/String" (549 : Nat) ({ cls := "java/lang/AbstractStringBuilder", name := "length", desc := "()I" } : Jvm.MethodName)).before a0 Z = true := hw _ (List.mem_of_getElem? (i := 192) rfl)
theorem wd_193 {Z : State} {a0 : Array Value} (hw : ∀ d ∈ tables_1, d.before a0 Z = true) : (Jvm.Cond.declares ({ cls := "java/lang/AbstractStringBuilder", name := "length", desc := "()I" } : Jvm.MethodName)).before a0 Z = true := hw _ (List.mem_of_getElem? (i := 193) rfl)
theorem wd_194 {Z : State} {a0 : Array Value} (hw : ∀ d ∈ tables_1, d.before a0 Z = true) : (Jvm.Cond.instanceMethod ({ cls := "java/lang/AbstractStringBuilder", name := "length", desc := "()I" } : Jvm.MethodName)).before a0 Z = true := hw _ (List.mem_of_getElem? (i := 194) rfl)
theorem wd_195 {Z : State} {a0 : Array Value} (hw : ∀ d ∈ tables_1, d.before a0 Z = true) : (Jvm.Cond.selects "java/lang/StringBuilder" ({ cls := "java/lang/AbstractStringBuilder", name := "length", desc := "()I" } : Jvm.MethodName) ({ cls := "java/lang/StringBuilder", name := "length", desc := "()I" } : Jvm.MethodName)).before a0 Z = true := hw _ (List.mem_of_getElem? (i := 195) rfl)
theorem wd_196 {Z : State} {a0 : Array Value} (hw : ∀ d ∈ tables_1, d.before a0 Z = true) : (Jvm.Cond.instanceMethod ({ cls := "java/lang/StringBuilder", name := "length", desc := "()I" } : Jvm.MethodName)).before a0 Z = true := hw _ (List.mem_of_getElem? (i := 196) rfl)
theorem wd_197 {Z : State} {a0 : Array Value} (hw : ∀ d ∈ tables_1, d.before a0 Z = true) : (Jvm.Cond.code ({ cls := "java/lang/StringBuilder", name := "length", desc := "()I" } : Jvm.MethodName) jdk_67_method_93_code (1 : Nat) (Option.some Jvm.ClassFile.FieldType.int)).before a0 Z = true := hw _ (List.mem_of_getElem? (i := 197) rfl)
theorem wd_198 {Z : State} {a0 : Array Value} (hw : ∀ d ∈ tables_1, d.before a0 Z = true) : (Jvm.Cond.methodLink "java/lang/StringBuilder" (343 : Nat) ({ cls := "java/lang/AbstractStringBuilder", name := "length", desc := "()I" } : Jvm.MethodName)).before a0 Z = true := hw _ (List.mem_of_getElem? (i := 198) rfl)
theorem wd_199 {Z : State} {a0 : Array Value} (hw : ∀ d ∈ tables_1, d.before a0 Z = true) : (Jvm.Cond.code ({ cls := "java/lang/AbstractStringBuilder", name := "length", desc := "()I" } : Jvm.MethodName) jdk_68_method_6_code (1 : Nat) (Option.some Jvm.ClassFile.FieldType.int)).before a0 Z = true := hw _ (List.mem_of_getElem? (i := 199) rfl)
theorem wd_200 {Z : State} {a0 : Array Value} (hw : ∀ d ∈ tables_1, d.before a0 Z = true) : (Jvm.Cond.methodLink "java/lang/String" (1047 : Nat) ({ cls := "java/lang/AbstractStringBuilder", name := "isLatin1", desc := "()Z" } : Jvm.MethodName)).before a0 Z = true := hw _ (List.mem_of_getElem? (i := 200) rfl)
theorem wd_201 {Z : State} {a0 : Array Value} (hw : ∀ d ∈ tables_1, d.before a0 Z = true) : (Jvm.Cond.methodLink "java/lang/String" (54 : Nat) ({ cls := "java/util/Arrays", name := "copyOfRange", desc := "([BII)[B" } : Jvm.MethodName)).before a0 Z = true := hw _ (List.mem_of_getElem? (i := 201) rfl)
theorem wd_202 {Z : State} {a0 : Array Value} (hw : ∀ d ∈ tables_1, d.before a0 Z = true) : (Jvm.Cond.static ({ cls := "java/util/Arrays", name := "copyOfRange", desc := "([BII)[B" } : Jvm.MethodName)).before a0 Z = true := hw _ (List.mem_of_getElem? (i := 202) rfl)
theorem wd_203 {Z : State} {a0 : Array Value} (hw : ∀ d ∈ tables_1, d.before a0 Z = true) : (Jvm.Cond.initialized "java/util/Arrays").before a0 Z = true := hw _ (List.mem_of_getElem? (i := 203) rfl)
theorem wd_204 {Z : State} {a0 : Array Value} (hw : ∀ d ∈ tables_1, d.before a0 Z = true) : (Jvm.Cond.code ({ cls := "java/util/Arrays", name := "copyOfRange", desc := "([BII)[B" } : Jvm.MethodName) jdk_65_method_132_code (3 : Nat) (Option.some (Jvm.ClassFile.FieldType.array Jvm.ClassFile.FieldType.byte))).before a0 Z = true := hw _ (List.mem_of_getElem? (i := 204) rfl)
theorem wd_205 {Z : State} {a0 : Array Value} (hw : ∀ d ∈ tables_1, d.before a0 Z = true) : (Jvm.Cond.methodLink "java/util/Arrays" (339 : Nat) ({ cls := "java/util/Arrays", name := "copyOfRangeByte", desc := "([BII)[B" } : Jvm.MethodName)).before a0 Z = true := hw _ (List.mem_of_getElem? (i := 205) rfl)
theorem wd_206 {Z : State} {a0 : Array Value} (hw : ∀ d ∈ tables_1, d.before a0 Z = true) : (Jvm.Cond.static ({ cls := "java/util/Arrays", name := "copyOfRangeByte", desc := "([BII)[B" } : Jvm.MethodName)).before a0 Z = true := hw _ (List.mem_of_getElem? (i := 206) rfl)
theorem wd_207 {Z : State} {a0 : Array Value} (hw : ∀ d ∈ tables_1, d.before a0 Z = true) : (Jvm.Cond.code ({ cls := "java/util/Arrays", name := "copyOfRangeByte", desc := "([BII)[B" } : Jvm.MethodName) jdk_65_method_133_code (5 : Nat) (Option.some (Jvm.ClassFile.FieldType.array Jvm.ClassFile.FieldType.byte))).before a0 Z = true := hw _ (List.mem_of_getElem? (i := 207) rfl)
theorem wd_208 {Z : State} {a0 : Array Value} (hw : ∀ d ∈ tables_1, d.before a0 Z = true) : (Jvm.Cond.methodLink "java/util/Arrays" (343 : Nat) ({ cls := "java/util/Arrays", name := "checkLength", desc := "(II)V" } : Jvm.MethodName)).before a0 Z = true := hw _ (List.mem_of_getElem? (i := 208) rfl)
theorem wd_209 {Z : State} {a0 : Array Value} (hw : ∀ d ∈ tables_1, d.before a0 Z = true) : (Jvm.Cond.static ({ cls := "java/util/Arrays", name := "checkLength", desc := "(II)V" } : Jvm.MethodName)).before a0 Z = true := hw _ (List.mem_of_getElem? (i := 209) rfl)
theorem wd_210 {Z : State} {a0 : Array Value} (hw : ∀ d ∈ tables_1, d.before a0 Z = true) : (Jvm.Cond.code ({ cls := "java/util/Arrays", name := "checkLength", desc := "(II)V" } : Jvm.MethodName) jdk_65_method_131_code (2 : Nat) (Option.none : Option Jvm.ClassFile.FieldType)).before a0 Z = true := hw _ (List.mem_of_getElem? (i := 210) rfl)
theorem wd_211 {Z : State} {a0 : Array Value} (hw : ∀ d ∈ tables_1, d.before a0 Z = true) : (Jvm.Cond.methodLink "java/util/Arrays" (304 : Nat) ({ cls := "java/lang/Math", name := "min", desc := "(II)I" } : Jvm.MethodName)).before a0 Z = true := hw _ (List.mem_of_getElem? (i := 211) rfl)
theorem wd_212 {Z : State} {a0 : Array Value} (hw : ∀ d ∈ tables_1, d.before a0 Z = true) : (Jvm.Cond.static ({ cls := "java/lang/Math", name := "min", desc := "(II)I" } : Jvm.MethodName)).before a0 Z = true := hw _ (List.mem_of_getElem? (i := 212) rfl)
theorem wd_213 {Z : State} {a0 : Array Value} (hw : ∀ d ∈ tables_1, d.before a0 Z = true) : (Jvm.Cond.initialized "java/lang/Math").before a0 Z = true := hw _ (List.mem_of_getElem? (i := 213) rfl)
theorem wd_214 {Z : State} {a0 : Array Value} (hw : ∀ d ∈ tables_1, d.before a0 Z = true) : (Jvm.Cond.code ({ cls := "java/lang/Math", name := "min", desc := "(II)I" } : Jvm.MethodName) jdk_29_method_69_code (2 : Nat) (Option.some Jvm.ClassFile.FieldType.int)).before a0 Z = true := hw _ (List.mem_of_getElem? (i := 214) rfl)
theorem wd_215 {Z : State} {a0 : Array Value} (hw : ∀ d ∈ tables_1, d.before a0 Z = true) : (Jvm.Cond.methodLink "java/util/Arrays" (150 : Nat) ({ cls := "java/lang/System", name := "arraycopy", desc := "(Ljava/lang/Object;ILjava/lang/Object;II)V" } : Jvm.MethodName)).before a0 Z = true := hw _ (List.mem_of_getElem? (i := 215) rfl)
theorem wd_216 {Z : State} {a0 : Array Value} (hw : ∀ d ∈ tables_1, d.before a0 Z = true) : (Jvm.Cond.classLink "java/lang/String" (10 : Nat) "java/lang/String").before a0 Z = true := hw _ (List.mem_of_getElem? (i := 216) rfl)
theorem wd_217 {Z : State} {a0 : Array Value} (hw : ∀ d ∈ tables_1, d.before a0 Z = true) : (Jvm.Cond.methodLink "java/lang/String" (541 : Nat) ({ cls := "java/lang/StringLatin1", name := "equals", desc := "([B[B)Z" } : Jvm.MethodName)).before a0 Z = true := hw _ (List.mem_of_getElem? (i := 217) rfl)
theorem wd_218 {Z : State} {a0 : Array Value} (hw : ∀ d ∈ tables_1, d.before a0 Z = true) : (Jvm.Cond.static ({ cls := "java/lang/StringLatin1", name := "equals", desc := "([B[B)Z" } : Jvm.MethodName)).before a0 Z = true := hw _ (List.mem_of_getElem? (i := 218) rfl)
theorem wd_219 {Z : State} {a0 : Array Value} (hw : ∀ d ∈ tables_1, d.before a0 Z = true) : (Jvm.Cond.initialized "java/lang/StringLatin1").before a0 Z = true := hw _ (List.mem_of_getElem? (i := 219) rfl)
theorem wd_220 {Z : State} {a0 : Array Value} (hw : ∀ d ∈ tables_1, d.before a0 Z = true) : (Jvm.Cond.code ({ cls := "java/lang/StringLatin1", name := "equals", desc := "([B[B)Z" } : Jvm.MethodName) jdk_43_method_13_code (3 : Nat) (Option.some Jvm.ClassFile.FieldType.boolean)).before a0 Z = true := hw _ (List.mem_of_getElem? (i := 220) rfl)
theorem wd_221 {Z : State} {a0 : Array Value} (hw : ∀ d ∈ tables_1, d.before a0 Z = true) : (Jvm.Cond.stringLink "com/example/vestry/vestry/ObjectName" (53 : Nat) " \"").before a0 Z = true := hw _ (List.mem_of_getElem? (i := 221) rfl)
theorem wd_222 {Z : State} {a0 : Array Value} (hw : ∀ d ∈ tables_1, d.before a0 Z = true) : (Jvm.Cond.stringLink "com/example/vestry/vestry/ObjectName" (55 : Nat) "\"").before a0 Z = true := hw _ (List.mem_of_getElem? (i := 222) rfl)
theorem wd_223 {Z : State} {a0 : Array Value} (hw : ∀ d ∈ tables_1, d.before a0 Z = true) : (Jvm.Cond.stringLink "java/lang/String" (7 : Nat) "").before a0 Z = true := hw _ (List.mem_of_getElem? (i := 223) rfl)
theorem wd_224 {Z : State} {a0 : Array Value} (hw : ∀ d ∈ tables_1, d.before a0 Z = true) : (Jvm.Cond.methodLink "java/lang/StringUTF16" (119 : Nat) ({ cls := "java/lang/StringUTF16", name := "toBytes", desc := "([CII)[B" } : Jvm.MethodName)).before a0 Z = true := hw _ (List.mem_of_getElem? (i := 224) rfl)
theorem wd_225 {Z : State} {a0 : Array Value} (hw : ∀ d ∈ tables_1, d.before a0 Z = true) : (Jvm.Cond.static ({ cls := "java/lang/StringUTF16", name := "toBytes", desc := "([CII)[B" } : Jvm.MethodName)).before a0 Z = true := hw _ (List.mem_of_getElem? (i := 225) rfl)
theorem wd_226 {Z : State} {a0 : Array Value} (hw : ∀ d ∈ tables_1, d.before a0 Z = true) : (Jvm.Cond.code ({ cls := "java/lang/StringUTF16", name := "toBytes", desc := "([CII)[B" } : Jvm.MethodName) jdk_52_method_14_code (5 : Nat) (Option.some (Jvm.ClassFile.FieldType.array Jvm.ClassFile.FieldType.byte))).before a0 Z = true := hw _ (List.mem_of_getElem? (i := 226) rfl)
theorem wd_227 {Z : State} {a0 : Array Value} (hw : ∀ d ∈ tables_1, d.before a0 Z = true) : (Jvm.Cond.methodLink "java/lang/StringUTF16" (107 : Nat) ({ cls := "java/lang/StringUTF16", name := "newBytesFor", desc := "(I)[B" } : Jvm.MethodName)).before a0 Z = true := hw _ (List.mem_of_getElem? (i := 227) rfl)
theorem wd_228 {Z : State} {a0 : Array Value} (hw : ∀ d ∈ tables_1, d.before a0 Z = true) : (Jvm.Cond.static ({ cls := "java/lang/StringUTF16", name := "newBytesFor", desc := "(I)[B" } : Jvm.MethodName)).before a0 Z = true := hw _ (List.mem_of_getElem? (i := 228) rfl)
theorem wd_229 {Z : State} {a0 : Array Value} (hw : ∀ d ∈ tables_1, d.before a0 Z = true) : (Jvm.Cond.code ({ cls := "java/lang/StringUTF16", name := "newBytesFor", desc := "(I)[B" } : Jvm.MethodName) jdk_52_method_2_code (1 : Nat) (Option.some (Jvm.ClassFile.FieldType.array Jvm.ClassFile.FieldType.byte))).before a0 Z = true := hw _ (List.mem_of_getElem? (i := 229) rfl)
theorem wd_230 {Z : State} {a0 : Array Value} (hw : ∀ d ∈ tables_1, d.before a0 Z = true) : (Jvm.Cond.methodLink "java/lang/StringUTF16" (11 : Nat) ({ cls := "java/lang/StringUTF16", name := "newBytesLength", desc := "(I)I" } : Jvm.MethodName)).before a0 Z = true := hw _ (List.mem_of_getElem? (i := 230) rfl)
theorem wd_231 {Z : State} {a0 : Array Value} (hw : ∀ d ∈ tables_1, d.before a0 Z = true) : (Jvm.Cond.static ({ cls := "java/lang/StringUTF16", name := "newBytesLength", desc := "(I)I" } : Jvm.MethodName)).before a0 Z = true := hw _ (List.mem_of_getElem? (i := 231) rfl)
theorem wd_232 {Z : State} {a0 : Array Value} (hw : ∀ d ∈ tables_1, d.before a0 Z = true) : (Jvm.Cond.code ({ cls := "java/lang/StringUTF16", name := "newBytesLength", desc := "(I)I" } : Jvm.MethodName) jdk_52_method_3_code (1 : Nat) (Option.some Jvm.ClassFile.FieldType.int)).before a0 Z = true := hw _ (List.mem_of_getElem? (i := 232) rfl)
theorem wd_233 {Z : State} {a0 : Array Value} (hw : ∀ d ∈ tables_1, d.before a0 Z = true) : (Jvm.Cond.constant "java/lang/StringUTF16" (20 : Nat) (1073741823 : Int32)).before a0 Z = true := hw _ (List.mem_of_getElem? (i := 233) rfl)
theorem wd_234 {Z : State} {a0 : Array Value} (hw : ∀ d ∈ tables_1, d.before a0 Z = true) : (Jvm.Cond.methodLink "java/lang/StringUTF16" (111 : Nat) ({ cls := "java/lang/StringUTF16", name := "putChar", desc := "([BII)V" } : Jvm.MethodName)).before a0 Z = true := hw _ (List.mem_of_getElem? (i := 234) rfl)
theorem wd_235 {Z : State} {a0 : Array Value} (hw : ∀ d ∈ tables_1, d.before a0 Z = true) : (Jvm.Cond.static ({ cls := "java/lang/StringUTF16", name := "putChar", desc := "([BII)V" } : Jvm.MethodName)).before a0 Z = true := hw _ (List.mem_of_getElem? (i := 235) rfl)
theorem wd_236 {Z : State} {a0 : Array Value} (hw : ∀ d ∈ tables_1, d.before a0 Z = true) : (Jvm.Cond.code ({ cls := "java/lang/StringUTF16", name := "putChar", desc := "([BII)V" } : Jvm.MethodName) jdk_52_method_4_code (3 : Nat) (Option.none : Option Jvm.ClassFile.FieldType)).before a0 Z = true := hw _ (List.mem_of_getElem? (i := 236) rfl)
theorem wd_237 {Z : State} {a0 : Array Value} (hw : ∀ d ∈ tables_1, d.before a0 Z = true) : (Jvm.Cond.fieldLink "java/lang/StringUTF16" (44 : Nat) "java/lang/StringUTF16" "$assertionsDisabled" "Z").before a0 Z = true := hw _ (List.mem_of_getElem? (i := 237) rfl)
theorem wd_238 {Z : State} {a0 : Array Value} (hw : ∀ d ∈ tables_1, d.before a0 Z = true) : (Jvm.Cond.fieldLink "java/lang/StringUTF16" (59 : Nat) "java/lang/StringUTF16" "HI_BYTE_SHIFT" "I").before a0 Z = true := hw _ (List.mem_of_getElem? (i := 238) rfl)
theorem wd_239 {Z : State} {a0 : Array Value} (hw : ∀ d ∈ tables_1, d.before a0 Z = true) : (Jvm.Cond.fieldLink "java/lang/StringUTF16" (63 : Nat) "java/lang/StringUTF16" "LO_BYTE_SHIFT" "I").before a0 Z = true := hw _ (List.mem_of_getElem? (i := 239) rfl)
theorem wd_240 {Z : State} {a0 : Array Value} (hw : ∀ d ∈ tables_1, d.before a0 Z = true) : (Jvm.Cond.methodLink "java/lang/StringUTF16" (71 : Nat) ({ cls := "java/lang/StringUTF16", name := "getChar", desc := "([BI)C" } : Jvm.MethodName)).before a0 Z = true := hw _ (List.mem_of_getElem? (i := 240) rfl)
theorem wd_241 {Z : State} {a0 : Array Value} (hw : ∀ d ∈ tables_1, d.before a0 Z = true) : (Jvm.Cond.static ({ cls := "java/lang/StringUTF16", name := "getChar", desc := "([BI)C" } : Jvm.MethodName)).before a0 Z = true := hw _ (List.mem_of_getElem? (i := 241) rfl)
theorem wd_242 {Z : State} {a0 : Array Value} (hw : ∀ d ∈ tables_1, d.before a0 Z = true) : (Jvm.Cond.code ({ cls := "java/lang/StringUTF16", name := "getChar", desc := "([BI)C" } : Jvm.MethodName) jdk_52_method_5_code (2 : Nat) (Option.some Jvm.ClassFile.FieldType.char)).before a0 Z = true := hw _ (List.mem_of_getElem? (i := 242) rfl)
theorem wd_243 {Z : State} {a0 : Array Value} (hw : ∀ d ∈ tables_1, d.before a0 Z = true) : (Jvm.Cond.methodLink "java/lang/AbstractStringBuilder" (195 : Nat) ({ cls := "java/lang/AbstractStringBuilder", name := "inflate", desc := "()V" } : Jvm.MethodName)).before a0 Z = true := hw _ (List.mem_of_getElem? (i := 243) rfl)
theorem wd_244 {Z : State} {a0 : Array Value} (hw : ∀ d ∈ tables_1, d.before a0 Z = true) : (Jvm.Cond.instanceMethod ({ cls := "java/lang/AbstractStringBuilder", name := "inflate", desc := "()V" } : Jvm.MethodName)).before a0 Z = true := hw _ (List.mem_of_getElem? (i := 244) rfl)
theorem wd_245 {Z : State} {a0 : Array Value} (hw : ∀ d ∈ tables_1, d.before a0 Z = true) : (Jvm.Cond.privateMethod ({ cls := "java/lang/AbstractStringBuilder", name := "inflate", desc := "()V" } : Jvm.MethodName)).before a0 Z = true := hw _ (List.mem_of_getElem? (i := 245) rfl)
theorem wd_247 {Z : State} {a0 : Array Value} (hw : ∀ d ∈ tables_1, d.before a0 Z = true) : (Jvm.Cond.code ({ cls := "java/lang/AbstractStringBuilder", name := "inflate", desc := "()V" } : Jvm.MethodName) jdk_68_method_11_code (2 : Nat) (Option.none : Option Jvm.ClassFile.FieldType)).before a0 Z = true := hw _ (List.mem_of_getElem? (i := 247) rfl)
theorem wd_248 {Z : State} {a0 : Array Value} (hw : ∀ d ∈ tables_1, d.before a0 Z = true) : (Jvm.Cond.methodLink "java/lang/AbstractStringBuilder" (26 : Nat) ({ cls := "java/lang/StringUTF16", name := "newBytesFor", desc := "(I)[B" } : Jvm.MethodName)).before a0 Z = true := hw _ (List.mem_of_getElem? (i := 248) rfl)
theorem wd_249 {Z : State} {a0 : Array Value} (hw : ∀ d ∈ tables_1, d.before a0 Z = true) : (Jvm.Cond.methodLink "java/lang/AbstractStringBuilder" (125 : Nat) ({ cls := "java/lang/StringLatin1", name := "inflate", desc := "([BI[BII)V" } : Jvm.MethodName)).before a0 Z = true := hw _ (List.mem_of_getElem? (i := 249) rfl)
theorem wd_250 {Z : State} {a0 : Array Value} (hw : ∀ d ∈ tables_1, d.before a0 Z = true) : (Jvm.Cond.static ({ cls := "java/lang/StringLatin1", name := "inflate", desc := "([BI[BII)V" } : Jvm.MethodName)).before a0 Z = true := hw _ (List.mem_of_getElem? (i := 250) rfl)
theorem wd_251 {Z : State} {a0 : Array Value} (hw : ∀ d ∈ tables_1, d.before a0 Z = true) : (Jvm.Cond.code ({ cls := "java/lang/StringLatin1", name := "inflate", desc := "([BI[BII)V" } : Jvm.MethodName) jdk_43_method_50_code (5 : Nat) (Option.none : Option Jvm.ClassFile.FieldType)).before a0 Z = true := hw _ (List.mem_of_getElem? (i := 251) rfl)
theorem wd_252 {Z : State} {a0 : Array Value} (hw : ∀ d ∈ tables_1, d.before a0 Z = true) : (Jvm.Cond.methodLink "java/lang/StringLatin1" (240 : Nat) ({ cls := "java/lang/StringUTF16", name := "inflate", desc := "([BI[BII)V" } : Jvm.MethodName)).before a0 Z = true := hw _ (List.mem_of_getElem? (i := 252) rfl)
theorem wd_253 {Z : State} {a0 : Array Value} (hw : ∀ d ∈ tables_1, d.before a0 Z = true) : (Jvm.Cond.static ({ cls := "java/lang/StringUTF16", name := "inflate", desc := "([BI[BII)V" } : Jvm.MethodName)).before a0 Z = true := hw _ (List.mem_of_getElem? (i := 253) rfl)
theorem wd_254 {Z : State} {a0 : Array Value} (hw : ∀ d ∈ tables_1, d.before a0 Z = true) : (Jvm.Cond.code ({ cls := "java/lang/StringUTF16", name := "inflate", desc := "([BI[BII)V" } : Jvm.MethodName) jdk_52_method_86_code (6 : Nat) (Option.none : Option Jvm.ClassFile.FieldType)).before a0 Z = true := hw _ (List.mem_of_getElem? (i := 254) rfl)
theorem wd_255 {Z : State} {a0 : Array Value} (hw : ∀ d ∈ tables_1, d.before a0 Z = true) : (Jvm.Cond.methodLink "java/lang/StringUTF16" (173 : Nat) ({ cls := "java/lang/StringUTF16", name := "checkBoundsOffCount", desc := "(II[B)V" } : Jvm.MethodName)).before a0 Z = true := hw _ (List.mem_of_getElem? (i := 255) rfl)
theorem wd_256 {Z : State} {a0 : Array Value} (hw : ∀ d ∈ tables_1, d.before a0 Z = true) : (Jvm.Cond.static ({ cls := "java/lang/StringUTF16", name := "checkBoundsOffCount", desc := "(II[B)V" } : Jvm.MethodName)).before a0 Z = true := hw _ (List.mem_of_getElem? (i := 256) rfl)
theorem wd_257 {Z : State} {a0 : Array Value} (hw : ∀ d ∈ tables_1, d.before a0 Z = true) : (Jvm.Cond.code ({ cls := "java/lang/StringUTF16", name := "checkBoundsOffCount", desc := "(II[B)V" } : Jvm.MethodName) jdk_52_method_94_code (3 : Nat) (Option.none : Option Jvm.ClassFile.FieldType)).before a0 Z = true := hw _ (List.mem_of_getElem? (i := 257) rfl)
theorem wd_258 {Z : State} {a0 : Array Value} (hw : ∀ d ∈ tables_1, d.before a0 Z = true) : (Jvm.Cond.methodLink "java/lang/StringUTF16" (48 : Nat) ({ cls := "java/lang/StringUTF16", name := "length", desc := "([B)I" } : Jvm.MethodName)).before a0 Z = true := hw _ (List.mem_of_getElem? (i := 258) rfl)
theorem wd_259 {Z : State} {a0 : Array Value} (hw : ∀ d ∈ tables_1, d.before a0 Z = true) : (Jvm.Cond.static ({ cls := "java/lang/StringUTF16", name := "length", desc := "([B)I" } : Jvm.MethodName)).before a0 Z = true := hw _ (List.mem_of_getElem? (i := 259) rfl)
theorem wd_260 {Z : State} {a0 : Array Value} (hw : ∀ d ∈ tables_1, d.before a0 Z = true) : (Jvm.Cond.code ({ cls := "java/lang/StringUTF16", name := "length", desc := "([B)I" } : Jvm.MethodName) jdk_52_method_6_code (1 : Nat) (Option.some Jvm.ClassFile.FieldType.int)).before a0 Z = true := hw _ (List.mem_of_getElem? (i := 260) rfl)
theorem wd_261 {Z : State} {a0 : Array Value} (hw : ∀ d ∈ tables_1, d.before a0 Z = true) : (Jvm.Cond.methodLink "java/lang/StringUTF16" (419 : Nat) ({ cls := "java/lang/String", name := "checkBoundsOffCount", desc := "(III)I" } : Jvm.MethodName)).before a0 Z = true := hw _ (List.mem_of_getElem? (i := 261) rfl)
theorem wd_262 {Z : State} {a0 : Array Value} (hw : ∀ d ∈ tables_1, d.before a0 Z = true) : (Jvm.Cond.static ({ cls := "java/lang/String", name := "checkBoundsOffCount", desc := "(III)I" } : Jvm.MethodName)).before a0 Z = true := hw _ (List.mem_of_getElem? (i := 262) rfl)
theorem wd_263 {Z : State} {a0 : Array Value} (hw : ∀ d ∈ tables_1, d.before a0 Z = true) : (Jvm.Cond.code ({ cls := "java/lang/String", name := "checkBoundsOffCount", desc := "(III)I" } : Jvm.MethodName) jdk_42_method_157_code (3 : Nat) (Option.some Jvm.ClassFile.FieldType.int)).before a0 Z = true := hw _ (List.mem_of_getElem? (i := 263) rfl)
theorem wd_264 {Z : State} {a0 : Array Value} (hw : ∀ d ∈ tables_1, d.before a0 Z = true) : (Jvm.Cond.fieldLink "java/lang/String" (1053 : Nat) "jdk/internal/util/Preconditions" "SIOOBE_FORMATTER" "Ljava/util/function/BiFunction;").before a0 Z = true := hw _ (List.mem_of_getElem? (i := 264) rfl)
theorem wd_265 {Z : State} {a0 : Array Value} (hw : ∀ d ∈ tables_1, d.before a0 Z = true) : (Jvm.Cond.initialized "jdk/internal/util/Preconditions").before a0 Z = true := hw _ (List.mem_of_getElem? (i := 265) rfl)
theorem wd_266 {Z : State} {a0 : Array Value} (hw : ∀ d ∈ tables_1, d.before a0 Z = true) : (Jvm.Cond.methodLink "java/lang/String" (1065 : Nat) ({ cls := "jdk/internal/util/Preconditions", name := "checkFromIndexSize", desc := "(IIILjava/util/function/BiFunction;)I" } : Jvm.MethodName)).before a0 Z = true := hw _ (List.mem_of_getElem? (i := 266) rfl)
theorem wd_267 {Z : State} {a0 : Array Value} (hw : ∀ d ∈ tables_1, d.before a0 Z = true) : (Jvm.Cond.static ({ cls := "jdk/internal/util/Preconditions", name := "checkFromIndexSize", desc := "(IIILjava/util/function/BiFunction;)I" } : Jvm.MethodName)).before a0 Z = true := hw _ (List.mem_of_getElem? (i := 267) rfl)
theorem wd_268 {Z : State} {a0 : Array Value} (hw : ∀ d ∈ tables_1, d.before a0 Z = true) : (Jvm.Cond.code ({ cls := "jdk/internal/util/Preconditions", name := "checkFromIndexSize", desc := "(IIILjava/util/function/BiFunction;)I" } : Jvm.MethodName) jdk_41_method_13_code (4 : Nat) (Option.some Jvm.ClassFile.FieldType.int)).before a0 Z = true := hw _ (List.mem_of_getElem? (i := 268) rfl)
theorem wd_269 {Z : State} {a0 : Array Value} (hw : ∀ d ∈ tables_1, d.before a0 Z = true) : (Jvm.Cond.methodLink "java/lang/String" (106 : Nat) ({ cls := "java/lang/StringLatin1", name := "inflate", desc := "([BI[BII)V" } : Jvm.MethodName)).before a0 Z = true := hw _ (List.mem_of_getElem? (i := 269) rfl)
theorem wd_270 {Z : State} {a0 : Array Value} (hw : ∀ d ∈ tables_1, d.before a0 Z = true) : (Jvm.Cond.fieldLink "java/lang/String" (1048 : Nat) "java/lang/AbstractStringBuilder" "maybeLatin1" "Z").before a0 Z = true := hw _ (List.mem_of_getElem? (i := 270) rfl)
theorem wd_271 {Z : State} {a0 : Array Value} (hw : ∀ d ∈ tables_1, d.before a0 Z = true) : (Jvm.Cond.lays "java/lang/StringBuilder" "java/lang/AbstractStringBuilder" "maybeLatin1" "Z").before a0 Z = true := hw _ (List.mem_of_getElem? (i := 271) rfl)
theorem wd_272 {Z : State} {a0 : Array Value} (hw : ∀ d ∈ tables_1, d.before a0 Z = true) : (Jvm.Cond.methodLink "java/lang/AbstractStringBuilder" (251 : Nat) ({ cls := "java/lang/StringUTF16", name := "getChars", desc := "(III[B)I" } : Jvm.MethodName)).before a0 Z = true := hw _ (List.mem_of_getElem? (i := 272) rfl)
theorem wd_273 {Z : State} {a0 : Array Value} (hw : ∀ d ∈ tables_1, d.before a0 Z = true) : (Jvm.Cond.static ({ cls := "java/lang/StringUTF16", name := "getChars", desc := "(III[B)I" } : Jvm.MethodName)).before a0 Z = true := hw _ (List.mem_of_getElem? (i := 273) rfl)
theorem wd_274 {Z : State} {a0 : Array Value} (hw : ∀ d ∈ tables_1, d.before a0 Z = true) : (Jvm.Cond.code ({ cls := "java/lang/StringUTF16", name := "getChars", desc := "(III[B)I" } : Jvm.MethodName) jdk_52_method_77_code (5 : Nat) (Option.some Jvm.ClassFile.FieldType.int)).before a0 Z = true := hw _ (List.mem_of_getElem? (i := 274) rfl)
theorem wd_275 {Z : State} {a0 : Array Value} (hw : ∀ d ∈ tables_1, d.before a0 Z = true) : (Jvm.Cond.methodLink "java/lang/StringUTF16" (96 : Nat) ({ cls := "java/lang/StringUTF16", name := "checkBoundsBeginEnd", desc := "(II[B)V" } : Jvm.MethodName)).before a0 Z = true := hw _ (List.mem_of_getElem? (i := 275) rfl)
theorem wd_276 {Z : State} {a0 : Array Value} (hw : ∀ d ∈ tables_1, d.before a0 Z = true) : (Jvm.Cond.static ({ cls := "java/lang/StringUTF16", name := "checkBoundsBeginEnd", desc := "(II[B)V" } : Jvm.MethodName)).before a0 Z = true := hw _ (List.mem_of_getElem? (i := 276) rfl)
theorem wd_277 {Z : State} {a0 : Array Value} (hw : ∀ d ∈ tables_1, d.before a0 Z = true) : (Jvm.Cond.code ({ cls := "java/lang/StringUTF16", name := "checkBoundsBeginEnd", desc := "(II[B)V" } : Jvm.MethodName) jdk_52_method_93_code (3 : Nat) (Option.none : Option Jvm.ClassFile.FieldType)).before a0 Z = true := hw _ (List.mem_of_getElem? (i := 277) rfl)
theorem wd_278 {Z : State} {a0 : Array Value} (hw : ∀ d ∈ tables_1, d.before a0 Z = true) : (Jvm.Cond.methodLink "java/lang/StringUTF16" (241 : Nat) ({ cls := "java/lang/String", name := "checkBoundsBeginEnd", desc := "(III)V" } : Jvm.MethodName)).before a0 Z = true := hw _ (List.mem_of_getElem? (i := 278) rfl)
theorem wd_279 {Z : State} {a0 : Array Value} (hw : ∀ d ∈ tables_1, d.before a0 Z = true) : (Jvm.Cond.static ({ cls := "java/lang/String", name := "checkBoundsBeginEnd", desc := "(III)V" } : Jvm.MethodName)).before a0 Z = true := hw _ (List.mem_of_getElem? (i := 279) rfl)
theorem wd_280 {Z : State} {a0 : Array Value} (hw : ∀ d ∈ tables_1, d.before a0 Z = true) : (Jvm.Cond.code ({ cls := "java/lang/String", name := "checkBoundsBeginEnd", desc := "(III)V" } : Jvm.MethodName) jdk_42_method_158_code (3 : Nat) (Option.none : Option Jvm.ClassFile.FieldType)).before a0 Z = true := hw _ (List.mem_of_getElem? (i := 280) rfl)
theorem wd_281 {Z : State} {a0 : Array Value} (hw : ∀ d ∈ tables_1, d.before a0 Z = true) : (Jvm.Cond.methodLink "java/lang/String" (1062 : Nat) ({ cls := "jdk/internal/util/Preconditions", name := "checkFromToIndex", desc := "(IIILjava/util/function/BiFunction;)I" } : Jvm.MethodName)).before a0 Z = true := hw _ (List.mem_of_getElem? (i := 281) rfl)
theorem wd_282 {Z : State} {a0 : Array Value} (hw : ∀ d ∈ tables_1, d.before a0 Z = true) : (Jvm.Cond.static ({ cls := "jdk/internal/util/Preconditions", name := "checkFromToIndex", desc := "(IIILjava/util/function/BiFunction;)I" } : Jvm.MethodName)).before a0 Z = true := hw _ (List.mem_of_getElem? (i := 282) rfl)
theorem wd_283 {Z : State} {a0 : Array Value} (hw : ∀ d ∈ tables_1, d.before a0 Z = true) : (Jvm.Cond.code ({ cls := "jdk/internal/util/Preconditions", name := "checkFromToIndex", desc := "(IIILjava/util/function/BiFunction;)I" } : Jvm.MethodName) jdk_41_method_12_code (4 : Nat) (Option.some Jvm.ClassFile.FieldType.int)).before a0 Z = true := hw _ (List.mem_of_getElem? (i := 283) rfl)
theorem wd_284 {Z : State} {a0 : Array Value} (hw : ∀ d ∈ tables_1, d.before a0 Z = true) : (Jvm.Cond.methodLink "java/lang/StringUTF16" (393 : Nat) ({ cls := "java/lang/StringUTF16", name := "getChars", desc := "(II[B)I" } : Jvm.MethodName)).before a0 Z = true := hw _ (List.mem_of_getElem? (i := 284) rfl)
theorem wd_285 {Z : State} {a0 : Array Value} (hw : ∀ d ∈ tables_1, d.before a0 Z = true) : (Jvm.Cond.static ({ cls := "java/lang/StringUTF16", name := "getChars", desc := "(II[B)I" } : Jvm.MethodName)).before a0 Z = true := hw _ (List.mem_of_getElem? (i := 285) rfl)
theorem wd_286 {Z : State} {a0 : Array Value} (hw : ∀ d ∈ tables_1, d.before a0 Z = true) : (Jvm.Cond.code ({ cls := "java/lang/StringUTF16", name := "getChars", desc := "(II[B)I" } : Jvm.MethodName) jdk_52_method_89_code (7 : Nat) (Option.some Jvm.ClassFile.FieldType.int)).before a0 Z = true := hw _ (List.mem_of_getElem? (i := 286) rfl)
theorem wd_287 {Z : State} {a0 : Array Value} (hw : ∀ d ∈ tables_1, d.before a0 Z = true) : (Jvm.Cond.fieldLink "java/lang/StringUTF16" (403 : Nat) "java/lang/Integer" "DigitOnes" "[B").before a0 Z = true := hw _ (List.mem_of_getElem? (i := 287) rfl)
abbrev EL : List (String × Nat) := consts_1
theorem ewEL {Z : State} {a0 : Array Value} (hw : ∀ d ∈ tables_1, d.before a0 Z = true) : EW Z a0 EL := EW.cons (wd_149 hw) (by decide) (EW.cons (wd_174 hw) (by decide) (EW.cons (wd_221 hw) (by decide) (EW.cons (wd_222 hw) (by decide) (EW.cons (wd_223 hw) (by decide) (EW.nil)))))
theorem wSA {Z : State} {a0 : Array Value} (hw : ∀ d ∈ tables_1, d.before a0 Z = true) : ∀ d ∈ Bundle.stringAtoms, d.before a0 Z = true := fun d hd => hw d ((by decide +kernel : ∀ d ∈ Bundle.stringAtoms, d ∈ tables_1) d hd)
theorem pd_0 : parseMethodDescriptor "()B" = some ⟨[], some .byte⟩ := by decide +kernel
theorem pd_1 : parseMethodDescriptor "(I)V" = some ⟨[.int], none⟩ := by decide +kernel
theorem pd_2 : parseMethodDescriptor "(Ljava/lang/String;)V" = some ⟨[(.object "java/lang/String")], none⟩ := by decide +kernel
theorem pd_3 : parseMethodDescriptor "([BIB)V" = some ⟨[(.array .byte), .int, .byte], none⟩ := by decide +kernel
theorem pd_4 : parseMethodDescriptor "()I" = some ⟨[], some .int⟩ := by decide +kernel
theorem pd_5 : parseMethodDescriptor "(ILjava/lang/String;)V" = some ⟨[.int, (.object "java/lang/String")], none⟩ := by decide +kernel
theorem pd_6 : parseMethodDescriptor "(Ljava/lang/String;)Ljava/lang/AbstractStringBuilder;" = some ⟨[(.object "java/lang/String")], some (.object "java/lang/AbstractStringBuilder")⟩ := by decide +kernel
theorem pd_7 : parseMethodDescriptor "(II)V" = some ⟨[.int, .int], none⟩ := by decide +kernel
theorem pd_8 : parseMethodDescriptor "(II)I" = some ⟨[.int, .int], some .int⟩ := by decide +kernel
theorem pd_9 : parseMethodDescriptor "([BII)[B" = some ⟨[(.array .byte), .int, .int], some (.array .byte)⟩ := by decide +kernel
theorem pd_10 : parseMethodDescriptor "()[B" = some ⟨[], some (.array .byte)⟩ := by decide +kernel
theorem pd_11 : parseMethodDescriptor "()Z" = some ⟨[], some .boolean⟩ := by decide +kernel
theorem pd_12 : parseMethodDescriptor "(Ljava/lang/AbstractStringBuilder;Ljava/lang/Void;)V" = some ⟨[(.object "java/lang/AbstractStringBuilder"), (.object "java/lang/Void")], none⟩ := by decide +kernel
theorem pd_13 : parseMethodDescriptor "(Ljava/lang/StringBuilder;)V" = some ⟨[(.object "java/lang/StringBuilder")], none⟩ := by decide +kernel
theorem pd_14 : parseMethodDescriptor "(I)I" = some ⟨[.int], some .int⟩ := by decide +kernel
theorem pd_15 : parseMethodDescriptor "(I)[B" = some ⟨[.int], some (.array .byte)⟩ := by decide +kernel
theorem pd_16 : parseMethodDescriptor "([BII)V" = some ⟨[(.array .byte), .int, .int], none⟩ := by decide +kernel
theorem pd_17 : parseMethodDescriptor "([CI[BII)I" = some ⟨[(.array .char), .int, (.array .byte), .int, .int], some .int⟩ := by decide +kernel
theorem pd_18 : parseMethodDescriptor "([CII)[B" = some ⟨[(.array .char), .int, .int], some (.array .byte)⟩ := by decide +kernel
theorem pd_19 : parseMethodDescriptor "([BI)C" = some ⟨[(.array .byte), .int], some .char⟩ := by decide +kernel
theorem pd_20 : parseMethodDescriptor "([BI)B" = some ⟨[(.array .byte), .int], some .byte⟩ := by decide +kernel
theorem pd_21 : parseMethodDescriptor "([CIILjava/lang/Void;)V" = some ⟨[(.array .char), .int, .int, (.object "java/lang/Void")], none⟩ := by decide +kernel
theorem pd_22 : parseMethodDescriptor "(IIILjava/util/function/BiFunction;)I" = some ⟨[.int, .int, .int, (.object "java/util/function/BiFunction")], some .int⟩ := by decide +kernel
theorem pd_23 : parseMethodDescriptor "([B)I" = some ⟨[(.array .byte)], some .int⟩ := by decide +kernel
theorem pd_24 : parseMethodDescriptor "(III)I" = some ⟨[.int, .int, .int], some .int⟩ := by decide +kernel
theorem pd_25 : parseMethodDescriptor "(II[B)V" = some ⟨[.int, .int, (.array .byte)], none⟩ := by decide +kernel
theorem pd_26 : parseMethodDescriptor "([BI[BII)V" = some ⟨[(.array .byte), .int, (.array .byte), .int, .int], none⟩ := by decide +kernel
theorem pd_27 : parseMethodDescriptor "([B[B)Z" = some ⟨[(.array .byte), (.array .byte)], some .boolean⟩ := by decide +kernel
theorem pd_28 : parseMethodDescriptor "()V" = some ⟨[], none⟩ := by decide +kernel
theorem pd_29 : parseMethodDescriptor "(III)V" = some ⟨[.int, .int, .int], none⟩ := by decide +kernel
theorem pd_30 : parseMethodDescriptor "(II[B)I" = some ⟨[.int, .int, (.array .byte)], some .int⟩ := by decide +kernel
theorem pd_31 : parseMethodDescriptor "(III[B)I" = some ⟨[.int, .int, .int, (.array .byte)], some .int⟩ := by decide +kernel
theorem pd_32 : parseMethodDescriptor "(I)Ljava/lang/AbstractStringBuilder;" = some ⟨[.int], some (.object "java/lang/AbstractStringBuilder")⟩ := by decide +kernel
theorem pd_33 : parseMethodDescriptor "(Lcom/example/vestry/vestry/ObjectName;Ljava/lang/String;Ljava/lang/String;I)V" = some ⟨[(.object "com/example/vestry/vestry/ObjectName"), (.object "java/lang/String"), (.object "java/lang/String"), .int], none⟩ := by decide +kernel
theorem pd_34 : parseMethodDescriptor "(Ljava/lang/String;)Ljava/lang/StringBuilder;" = some ⟨[(.object "java/lang/String")], some (.object "java/lang/StringBuilder")⟩ := by decide +kernel
theorem pd_35 : parseMethodDescriptor "(I)Ljava/lang/StringBuilder;" = some ⟨[.int], some (.object "java/lang/StringBuilder")⟩ := by decide +kernel
theorem pd_36 : parseMethodDescriptor "()Ljava/lang/String;" = some ⟨[], some (.object "java/lang/String")⟩ := by decide +kernel
theorem pd_37 : parseMethodDescriptor "([C)V" = some ⟨[(.array .char)], none⟩ := by decide +kernel
theorem pd_38 : parseMethodDescriptor "(Ljava/lang/String;Ljava/lang/String;)Lcom/example/vestry/vestry/ObjectName;" = some ⟨[(.object "java/lang/String"), (.object "java/lang/String")], some (.object "com/example/vestry/vestry/ObjectName")⟩ := by decide +kernel
theorem pd_39 : parseMethodDescriptor "()Lcom/example/vestry/vestry/ObjectName;" = some ⟨[], some (.object "com/example/vestry/vestry/ObjectName")⟩ := by decide +kernel
theorem pd_40 : parseMethodDescriptor "(Ljava/lang/Object;)Z" = some ⟨[(.object "java/lang/Object")], some .boolean⟩ := by decide +kernel
theorem own_and255 (x : Int32) : nar .char ((x &&& (255 : Int32)).toUInt32.toUInt16.toUInt32.toInt32) = x &&& 255 := by
  show ((x &&& (255 : Int32)).toUInt32.toUInt16.toUInt32.toInt32).toUInt32.toUInt16.toUInt32.toInt32 = _
  rw [i2c_mask, i2c_mask]
theorem own_255 (x : Int32) : ¬ (x &&& 255) < 0 ∧ ¬ (255 : Int32) < (x &&& 255) := by
  have h := c_and x 255 (by decide)
  have e : (255 : Int32).toInt = 255 := rfl
  have e0 : (0 : Int32).toInt = 0 := rfl
  rw [Int32.lt_iff_toInt_lt, Int32.lt_iff_toInt_lt]
  omega
theorem own_b8 (x : Int32) : nar .byte x.toInt8.toInt32 = x.toInt8.toInt32 := by
  show (x.toInt8.toInt32).toInt8.toInt32 = x.toInt8.toInt32
  have h := c_i2b x
  have h2 := c_i2b x.toInt8.toInt32
  apply Int32.toInt_inj.mp
  omega
def Str (Z : State) (h : Heap) (x t : Addr) (kb : ClassId) (cs : List Int32) : Prop := Exa Z h x "java/lang/String" ∧ Fld Z h x "java/lang/String" "coder" "B" (.int (0 : Int32)) ∧ Fld Z h x "java/lang/String" "value" "[B" (.ref t) ∧ Arv Z h t kb .byte (Int32.ofNat cs.length) ((cs.map fun c => c.toInt8.toInt32).map Value.int) (.int (0 : Int32))
/-- a Latin-1 String: its bytes -/
def Byt (Z : State) (h : Heap) (x t : Addr) (kb : ClassId) (bs : List Int32) : Prop := Exa Z h x "java/lang/String" ∧ Fld Z h x "java/lang/String" "coder" "B" (.int (0 : Int32)) ∧ Fld Z h x "java/lang/String" "value" "[B" (.ref t) ∧ Arv Z h t kb .byte (Int32.ofNat bs.length) (bs.map Value.int) (.int (0 : Int32))
theorem Byt.keep {Z : State} {h h' : Heap} {x t : Addr} {kb : ClassId} {cs : List Int32} {ws : List Addr} (F : Byt Z h x t kb cs) (K : Keep h h' ws) (q : x ∉ ws) (r : t ∉ ws) : Byt Z h' x t kb cs := ⟨F.1.keep K, F.2.1.keep K q, F.2.2.1.keep K q, F.2.2.2.keep K r⟩
theorem Byt.lt {Z : State} {h : Heap} {x t : Addr} {kb : ClassId} {cs : List Int32} (F : Byt Z h x t kb cs) : x < h.size := F.1.lt
theorem Byt.lt2 {Z : State} {h : Heap} {x t : Addr} {kb : ClassId} {cs : List Int32} (F : Byt Z h x t kb cs) : t < h.size := F.2.2.2.lt
theorem Byt.of {Z : State} {h : Heap} {x t : Addr} {kb : ClassId} {cs : List Int32} (F : Str Z h x t kb cs) : Byt Z h x t kb (cs.map fun c => c.toInt8.toInt32) := by
  obtain ⟨h1, h2, h3, h4⟩ := F
  exact ⟨h1, h2, h3, by simpa using h4⟩
/-- a Latin-1 StringBuilder of 16 places: its bytes -/
def Sbd (Z : State) (h : Heap) (sb va : Addr) (kv : ClassId) (cs : List Int32) : Prop := Exa Z h sb "java/lang/StringBuilder" ∧ Fld Z h sb "java/lang/AbstractStringBuilder" "value" "[B" (.ref va) ∧ Fld Z h sb "java/lang/AbstractStringBuilder" "coder" "B" (.int (0 : Int32)) ∧ Fld Z h sb "java/lang/AbstractStringBuilder" "count" "I" (.int (Int32.ofNat cs.length)) ∧ Arv Z h va kv .byte (16 : Int32) (cs.map Value.int) (.int (0 : Int32)) ∧ Fld Z h sb "java/lang/AbstractStringBuilder" "maybeLatin1" "Z" (.int (0 : Int32))
theorem Sbd.keep {Z : State} {h h' : Heap} {x t : Addr} {kb : ClassId} {cs : List Int32} {ws : List Addr} (F : Sbd Z h x t kb cs) (K : Keep h h' ws) (q : x ∉ ws) (r : t ∉ ws) : Sbd Z h' x t kb cs := ⟨F.1.keep K, F.2.1.keep K q, F.2.2.1.keep K q, F.2.2.2.1.keep K q, F.2.2.2.2.1.keep K r, F.2.2.2.2.2.keep K q⟩
theorem Sbd.lt {Z : State} {h : Heap} {x t : Addr} {kb : ClassId} {cs : List Int32} (F : Sbd Z h x t kb cs) : x < h.size := F.1.lt
theorem Sbd.lt2 {Z : State} {h : Heap} {x t : Addr} {kb : ClassId} {cs : List Int32} (F : Sbd Z h x t kb cs) : t < h.size := F.2.2.2.2.1.lt
theorem own_shr0 (x : Int32) : x >>> ((0 : Int32) &&& 31) = x := by
  apply Int32.toBitVec_inj.mp
  simp [Int32.toBitVec_shiftRight]
theorem own_shl0 (x : Int32) : x <<< ((0 : Int32) &&& 31) = x := by
  apply Int32.toBitVec_inj.mp
  simp [Int32.toBitVec_shiftLeft]
theorem own_ofInt {n : Nat} (h : n < 2 ^ 31) : (Int32.ofNat n).toInt = n := len_toInt h
theorem own_clamp {n : Nat} (h : n < 2 ^ 31) : (Int32.ofNat n).toNatClampNeg = n := by simp only [Int32.toNatClampNeg, own_ofInt h]; rfl
theorem own_nneg {n : Nat} (h : n < 2 ^ 31) : ¬ Int32.ofNat n < 0 := by rw [Int32.lt_iff_toInt_lt, own_ofInt h]; show ¬ (n : Int) < 0; omega
theorem own_range {L : List Value} {d : Value} {n : Nat} (h : n = L.length) : L = (List.range n).map fun i => L.getD (0 + i) d := by
  subst h
  apply List.ext_getElem
  · simp
  · intro i h1 h2; simp [List.getD_eq_getElem?_getD, h1]
theorem own_cap (k : Nat) (h : k ≤ 16) : ¬ (0 : Int32) < Int32.ofNat k - ((16 : Int32) >>> ((0 : Int32) &&& 31)) := by
  rw [own_shr0]
  have : k = 0 ∨ k = 1 ∨ k = 2 ∨ k = 3 ∨ k = 4 ∨ k = 5 ∨ k = 6 ∨ k = 7 ∨ k = 8 ∨ k = 9 ∨ k = 10 ∨ k = 11 ∨ k = 12 ∨ k = 13 ∨ k = 14 ∨ k = 15 ∨ k = 16 := by omega
  rcases this with rfl | rfl | rfl | rfl | rfl | rfl | rfl | rfl | rfl | rfl | rfl | rfl | rfl | rfl | rfl | rfl | rfl <;> decide
theorem own_le16 {k : Nat} (h : k ≤ 15) : ¬ (16 : Int32) - 0 < Int32.ofNat k := by
  rw [Int32.lt_iff_toInt_lt, own_ofInt (by omega)]; show ¬ (16 : Int) < k; omega
theorem own_ne16 {k : Nat} (h : k ≤ 15) : ¬ Int32.ofNat k = 16 := fun q => by
  have := congrArg Int32.toInt q; rw [own_ofInt (by omega)] at this; have e : (16 : Int32).toInt = 16 := rfl; omega
theorem own_cnt (cs bs : List Int32) : Int32.ofNat cs.length + Int32.ofNat bs.length = Int32.ofNat (cs ++ bs).length := by rw [List.length_append]; exact (Int32.ofNat_add _ _).symm
theorem own_put {Z : State} {h : Heap} {va : Addr} {kv : ClassId} {cs bs : List Int32} (hl : cs.length + bs.length ≤ 16) (V : Arv Z h va kv .byte (16 : Int32) ((cs.map Value.int ++ List.replicate (16 - cs.length) (Value.int 0)).take (Int32.ofNat cs.length).toNatClampNeg ++ bs.map Value.int ++ (cs.map Value.int ++ List.replicate (16 - cs.length) (Value.int 0)).drop ((Int32.ofNat cs.length).toNatClampNeg + (Int32.ofNat bs.length).toNatClampNeg)) (.int (0 : Int32))) : Arv Z h va kv .byte (16 : Int32) ((cs ++ bs).map Value.int) (.int (0 : Int32)) := by
  rw [own_clamp (by omega), own_clamp (by omega)] at V
  have e1 : (cs.map Value.int ++ List.replicate (16 - cs.length) (Value.int 0)).take cs.length = cs.map Value.int := by simp
  have e2 : (cs.map Value.int ++ List.replicate (16 - cs.length) (Value.int 0)).drop (cs.length + bs.length) = List.replicate (16 - cs.length - bs.length) (Value.int 0) := by
    rw [List.drop_append]; simp
  rw [e1, e2, ← List.map_append] at V
  exact V.pad fun i => (pad_rep _ _ _ i).symm
theorem d_scoder_0 : decode jdk_42_method_152_code 0 = .ok (.getstatic 38, 3) := by decide +kernel
theorem d_scoder_3 : decode jdk_42_method_152_code 3 = .ok (.ifCond .eq 10, 3) := by decide +kernel
theorem d_scoder_6 : decode jdk_42_method_152_code 6 = .ok (.aload_n 0, 1) := by decide +kernel
theorem d_scoder_7 : decode jdk_42_method_152_code 7 = .ok (.getfield 15, 3) := by decide +kernel
theorem d_scoder_10 : decode jdk_42_method_152_code 10 = .ok (.goto 4, 3) := by decide +kernel
theorem d_scoder_14 : decode jdk_42_method_152_code 14 = .ok (.ireturn, 1) := by decide +kernel
abbrev R_scoder : Room := ({ frames := 0, cells := 0, slots := 0, locals := 0 } : Room)
abbrev GM_scoder (l : Launch) (Z : State) (n0 : Nat) (Q : Option Value → Heap → Prop) (h : Heap) (cells slots pc : Nat) (Ls : Array Slot) (st : List Value) : Prop := Go l Z n0 R_scoder "java/lang/String" "coder" jdk_42_method_152_code 1 (some .byte) IN (FN n0 R_scoder Q) h cells slots pc Ls st
abbrev GW_scoder (l : Launch) (Z : State) (EL : List (String × Nat)) (s₀ : State) (n0 : Nat) (Q : Option Value → Heap → Prop) (lo : Nat) (Sf : List Addr) (h : Heap) (cells slots pc : Nat) (Ls : Array Slot) (st : List Value) : Prop := Go l Z n0 R_scoder "java/lang/String" "coder" jdk_42_method_152_code 1 (some .byte) (IW Z EL s₀ lo Sf) (FW Z EL s₀ n0 R_scoder Q) h cells slots pc Ls st
theorem pf_scoder : plainFor (⟨"java/lang/String", "coder", "()B"⟩ : MethodName) = true := plainFor_of_name (by first | (simp [plainName, overriddenIn]; done) | decide +kernel)
theorem ct_scoder (l : Launch) (Z : State) (a0 : Array Value) (hw : ∀ d ∈ tables_1, d.before a0 Z = true) (n0 : Nat) (x : Addr) (h0 : Heap) (O : Old Z n0 h0) (z : Int32) (S_cs : Sta Z Z.heap "java/lang/String" "COMPACT_STRINGS" "Z" (.int z)) (hcs : ¬ z = 0) (F : Fld Z h0 x "java/lang/String" "coder" "B" (.int (0 : Int32))) : Ct l Z n0 "java/lang/String" "coder" "()B" [] jdk_42_method_152_code 1 (some .byte) R_scoder #[.ref x] h0 (fun v h => v = some (.int (0 : Int32)) ∧ h0 = h) := by
  refine Ct.of_go pf_scoder (Ls := #[.val (.ref x)]) (fun m => by first | rfl | (simp [entryFrame, mkF, argsToLocals, Value.category]; done)) ?_
  show GM_scoder l Z n0 (fun v h => v = some (.int (0 : Int32)) ∧ h0 = h) h0 0 0 0 #[.val (.ref x)] []
  refine Go.getS (wd_15 hw) Via.refl (S_cs.ext O.2) d_scoder_0 ?_
  -- at pc 3: pc 3: ifCond .ifCond .eq 10 stack [(.int z)]
  -- not: z = (0 : Int32)
  refine Go.ifF d_scoder_3 (feq (hcs)).1 ?_
  refine Go.aloadN d_scoder_6 rfl rfl ?_
  refine Go.getF (wd_27 hw) Via.refl F d_scoder_7 ?_
  refine Go.goto 14 d_scoder_10 (by decide) (by decide) ?_
  -- at pc 14: pc 14: ireturn .ireturn stack [(.int (0 : Int32))]
  exact Go.nreturn .byte d_scoder_14 rfl (by simp) (by decide) (by decide) ⟨rfl, rfl⟩
theorem d_slen_0 : decode jdk_42_method_54_code 0 = .ok (.aload_n 0, 1) := by decide +kernel
theorem d_slen_1 : decode jdk_42_method_54_code 1 = .ok (.getfield 9, 3) := by decide +kernel
theorem d_slen_4 : decode jdk_42_method_54_code 4 = .ok (.arraylength, 1) := by decide +kernel
theorem d_slen_5 : decode jdk_42_method_54_code 5 = .ok (.aload_n 0, 1) := by decide +kernel
theorem d_slen_6 : decode jdk_42_method_54_code 6 = .ok (.invokevirtual 335, 3) := by decide +kernel
theorem d_slen_9 : decode jdk_42_method_54_code 9 = .ok (.ishr, 1) := by decide +kernel
theorem d_slen_10 : decode jdk_42_method_54_code 10 = .ok (.ireturn, 1) := by decide +kernel
abbrev R_slen : Room := ({ frames := 1, cells := 0, slots := 0, locals := 13 } : Room)
abbrev GM_slen (l : Launch) (Z : State) (n0 : Nat) (Q : Option Value → Heap → Prop) (h : Heap) (cells slots pc : Nat) (Ls : Array Slot) (st : List Value) : Prop := Go l Z n0 R_slen "java/lang/String" "length" jdk_42_method_54_code 1 (some .int) IN (FN n0 R_slen Q) h cells slots pc Ls st
abbrev GW_slen (l : Launch) (Z : State) (EL : List (String × Nat)) (s₀ : State) (n0 : Nat) (Q : Option Value → Heap → Prop) (lo : Nat) (Sf : List Addr) (h : Heap) (cells slots pc : Nat) (Ls : Array Slot) (st : List Value) : Prop := Go l Z n0 R_slen "java/lang/String" "length" jdk_42_method_54_code 1 (some .int) (IW Z EL s₀ lo Sf) (FW Z EL s₀ n0 R_slen Q) h cells slots pc Ls st
theorem pf_slen : plainFor (⟨"java/lang/String", "length", "()I"⟩ : MethodName) = true := plainFor_of_name (by first | (simp [plainName, overriddenIn]; done) | decide +kernel)
theorem ct_slen (l : Launch) (Z : State) (a0 : Array Value) (hw : ∀ d ∈ tables_1, d.before a0 Z = true) (n0 : Nat) (x t : Addr) (kt : ClassId) (bs : List Int32) (h0 : Heap) (O : Old Z n0 h0) (z : Int32) (S_cs : Sta Z Z.heap "java/lang/String" "COMPACT_STRINGS" "Z" (.int z)) (hcs : ¬ z = 0) (B : Byt Z h0 x t kt bs) : Ct l Z n0 "java/lang/String" "length" "()I" [] jdk_42_method_54_code 1 (some .int) R_slen #[.ref x] h0 (fun v h => v = some (.int (Int32.ofNat bs.length)) ∧ h0 = h) := by
  obtain ⟨E_x, F_x_coder, F_x_value, V_t⟩ := B
  refine Ct.of_go pf_slen (Ls := #[.val (.ref x)]) (fun m => by first | rfl | (simp [entryFrame, mkF, argsToLocals, Value.category]; done)) ?_
  show GM_slen l Z n0 (fun v h => v = some (.int (Int32.ofNat bs.length)) ∧ h0 = h) h0 0 0 0 #[.val (.ref x)] []
  refine Go.aloadN d_slen_0 rfl rfl ?_
  refine Go.getF (wd_29 hw) Via.refl F_x_value d_slen_1 ?_
  refine Go.arraylength V_t d_slen_4 ?_
  refine Go.aloadN d_slen_5 rfl rfl ?_
  -- at pc 6: pc 6: invokevirtual .invokevirtual 335 stack [(.ref x), (.int (Int32.ofNat bs.length))]
  refine Go.callV (I' := IN) (hI := nQ) x [] [(.int (Int32.ofNat bs.length))] (ct_scoder l Z a0 hw n0 x _ O z S_cs hcs F_x_coder) E_x (wd_117 hw) (wd_118 hw) (nf_sel (wd_120 hw)) (wd_120 hw) (wd_119 hw) (wd_3 hw) (wd_121 hw) (by decide) pd_0 rfl rfl rfl (Nat.le_of_ble_eq_true rfl) (Nat.le_of_ble_eq_true rfl) (Nat.le_of_ble_eq_true rfl) (Nat.le_of_ble_eq_true rfl) d_slen_6 ?_
  rintro _ _ ⟨rfl, rfl⟩
  show GM_slen l Z n0 (fun v h => v = some (.int (Int32.ofNat bs.length)) ∧ h0 = h) h0 0 0 9 #[.val (.ref x)] [(.int (0 : Int32)), (.int (Int32.ofNat bs.length))]
  refine Go.ishr d_slen_9 ?_
  rw [show ((Int32.ofNat bs.length) >>> ((0 : Int32) &&& 31)) = (Int32.ofNat bs.length) from (own_shr0 _)]
  exact Go.ireturn d_slen_10 rfl (by decide) (by decide) ⟨rfl, rfl⟩
theorem d_sbiA_0 : decode jdk_68_method_2_code 0 = .ok (.aload_n 0, 1) := by decide +kernel
theorem d_sbiA_1 : decode jdk_68_method_2_code 1 = .ok (.invokespecial 3, 3) := by decide +kernel
theorem d_sbiA_4 : decode jdk_68_method_2_code 4 = .ok (.getstatic 18, 3) := by decide +kernel
theorem d_sbiA_7 : decode jdk_68_method_2_code 7 = .ok (.ifCond .eq 18, 3) := by decide +kernel
theorem d_sbiA_10 : decode jdk_68_method_2_code 10 = .ok (.aload_n 0, 1) := by decide +kernel
theorem d_sbiA_11 : decode jdk_68_method_2_code 11 = .ok (.iload_n 1, 1) := by decide +kernel
theorem d_sbiA_12 : decode jdk_68_method_2_code 12 = .ok (.newarray .byte, 2) := by decide +kernel
theorem d_sbiA_14 : decode jdk_68_method_2_code 14 = .ok (.putfield 15, 3) := by decide +kernel
theorem d_sbiA_17 : decode jdk_68_method_2_code 17 = .ok (.aload_n 0, 1) := by decide +kernel
theorem d_sbiA_18 : decode jdk_68_method_2_code 18 = .ok (.iconst 0, 1) := by decide +kernel
theorem d_sbiA_19 : decode jdk_68_method_2_code 19 = .ok (.putfield 22, 3) := by decide +kernel
theorem d_sbiA_22 : decode jdk_68_method_2_code 22 = .ok (.goto 16, 3) := by decide +kernel
theorem d_sbiA_38 : decode jdk_68_method_2_code 38 = .ok (.return_, 1) := by decide +kernel
abbrev R_sbiA : Room := ({ frames := 1, cells := 1, slots := 16, locals := 12 } : Room)
abbrev GM_sbiA (l : Launch) (Z : State) (n0 : Nat) (Q : Option Value → Heap → Prop) (h : Heap) (cells slots pc : Nat) (Ls : Array Slot) (st : List Value) : Prop := Go l Z n0 R_sbiA "java/lang/AbstractStringBuilder" "<init>" jdk_68_method_2_code 2 none IN (FN n0 R_sbiA Q) h cells slots pc Ls st
abbrev GW_sbiA (l : Launch) (Z : State) (EL : List (String × Nat)) (s₀ : State) (n0 : Nat) (Q : Option Value → Heap → Prop) (lo : Nat) (Sf : List Addr) (h : Heap) (cells slots pc : Nat) (Ls : Array Slot) (st : List Value) : Prop := Go l Z n0 R_sbiA "java/lang/AbstractStringBuilder" "<init>" jdk_68_method_2_code 2 none (IW Z EL s₀ lo Sf) (FW Z EL s₀ n0 R_sbiA Q) h cells slots pc Ls st
theorem pf_sbiA : plainFor (⟨"java/lang/AbstractStringBuilder", "<init>", "(I)V"⟩ : MethodName) = true := plainFor_of_name (by first | (simp [plainName, overriddenIn]; done) | decide +kernel)
theorem ct_sbiA (l : Launch) (Z : State) (a0 : Array Value) (hw : ∀ d ∈ tables_1, d.before a0 Z = true) (n0 : Nat) (sb : Addr) (h0 : Heap) (hz : n0 ≤ h0.size) (O : Old Z n0 h0) (z : Int32) (S_cs : Sta Z Z.heap "java/lang/String" "COMPACT_STRINGS" "Z" (.int z)) (hcs : ¬ z = 0) (g_sb : n0 ≤ sb) (E_sb : Exa Z h0 sb "java/lang/StringBuilder") (F_sb_value : Fld Z h0 sb "java/lang/AbstractStringBuilder" "value" "[B" .null) (F_sb_coder : Fld Z h0 sb "java/lang/AbstractStringBuilder" "coder" "B" (.int (0 : Int32))) (F_sb_count : Fld Z h0 sb "java/lang/AbstractStringBuilder" "count" "I" (.int (0 : Int32))) (F_sb_maybeLatin1 : Fld Z h0 sb "java/lang/AbstractStringBuilder" "maybeLatin1" "Z" (.int (0 : Int32))) :
    Ct l Z n0 "java/lang/AbstractStringBuilder" "<init>" "(I)V" [] jdk_68_method_2_code 2 none R_sbiA #[.ref sb, .int (16 : Int32)] h0 (fun v h => v = none ∧ Keep h0 h [sb] ∧ ∃ (va : Addr) (kv : ClassId), n0 ≤ va ∧ h0.size ≤ va ∧ Sbd Z h sb va kv []) := by
  refine Ct.of_go pf_sbiA (Ls := #[.val (.ref sb), .val (.int (16 : Int32))]) (fun m => by first | rfl | (simp [entryFrame, mkF, argsToLocals, Value.category]; done)) ?_
  show GM_sbiA l Z n0 (fun v h => v = none ∧ Keep h0 h [sb] ∧ ∃ (va : Addr) (kv : ClassId), n0 ≤ va ∧ h0.size ≤ va ∧ Sbd Z h sb va kv []) h0 0 0 0 #[.val (.ref sb), .val (.int (16 : Int32))] []
  have KK : Keep h0 h0 [sb] := Keep.refl _ _
  refine Go.aloadN d_sbiA_0 rfl rfl ?_
  refine Go.initO (wd_96 hw) (wd_13 hw) (wd_14 hw) d_sbiA_1 rfl (by decide) (Nat.le_of_ble_eq_true rfl) ?_
  refine Go.getS (wd_97 hw) Via.refl (S_cs.ext O.2) d_sbiA_4 ?_
  -- at pc 7: pc 7: ifCond .ifCond .eq 18 stack [(.int z)]
  -- not: z = (0 : Int32)
  refine Go.ifF d_sbiA_7 (feq (hcs)).1 ?_
  refine Go.aloadN d_sbiA_10 rfl rfl ?_
  refine Go.iloadN d_sbiA_11 rfl ?_
  -- at pc 12: pc 12: newarray .newarray .byte stack [(.int (16 : Int32)), (.ref sb)]
  refine Go.newP (I' := IN) (hI := nE) .byte (wd_20 hw) rfl d_sbiA_12 (by decide) 16 (by decide) (by decide) (by decide) (by decide) fun hp2 va k_va e_va X2 V_va => ?_
  have K2 : Keep h0 hp2 [] := (Keep.refl _ _).ext X2
  have g_va : n0 ≤ va := e_va ▸ hz
  have s_va : h0.size ≤ va := e_va ▸ KK.1
  have ne_sb_va : sb ≠ va := Nat.ne_of_lt (e_va ▸ E_sb.lt)
  replace O := O.keep K2 (all0)
  replace E_sb := E_sb.keep K2
  replace F_sb_value := F_sb_value.keep K2 nin0
  replace F_sb_coder := F_sb_coder.keep K2 nin0
  replace F_sb_count := F_sb_count.keep K2 nin0
  replace F_sb_maybeLatin1 := F_sb_maybeLatin1.keep K2 nin0
  replace V_va : Arv Z hp2 va k_va .byte (16 : Int32) [(.int (0 : Int32)), (.int (0 : Int32)), (.int (0 : Int32)), (.int (0 : Int32)), (.int (0 : Int32)), (.int (0 : Int32)), (.int (0 : Int32)), (.int (0 : Int32)), (.int (0 : Int32)), (.int (0 : Int32)), (.int (0 : Int32)), (.int (0 : Int32)), (.int (0 : Int32)), (.int (0 : Int32)), (.int (0 : Int32)), (.int (0 : Int32))] (.int (0 : Int32)) := V_va.pad (pad_rep [] (.int (0 : Int32)) 16)
  replace hz : n0 ≤ hp2.size := Nat.le_trans hz K2.1
  replace KK : Keep h0 hp2 [sb] := KK.trans K2 (all0)
  refine Go.putF (I' := IN) (hI := nI) (wd_98 hw) Via.refl F_sb_value E_sb (Or.inl (wd_99 hw)) (wd_85 hw) (ty := (.array .byte)) (by decide) rfl rfl g_sb d_sbiA_14 fun hp3 W3 => ?_
  have K3 := Keep.of_wr W3
  replace F_sb_value := F_sb_value.same W3
  replace F_sb_coder := F_sb_coder.other W3 (Or.inr (slot_ne (Or.inl (wd_101 hw)) (Or.inl (wd_99 hw)) (by decide) (t := .byte) (t' := (.array .byte)) (by decide) (by decide)))
  replace F_sb_count := F_sb_count.other W3 (Or.inr (slot_ne (Or.inl (wd_123 hw)) (Or.inl (wd_99 hw)) (by decide) (t := .int) (t' := (.array .byte)) (by decide) (by decide)))
  replace F_sb_maybeLatin1 := F_sb_maybeLatin1.other W3 (Or.inr (slot_ne (Or.inl (wd_271 hw)) (Or.inl (wd_99 hw)) (by decide) (t := .boolean) (t' := (.array .byte)) (by decide) (by decide)))
  replace O := O.keep K3 (allS g_sb (all0))
  replace E_sb := E_sb.keep K3
  replace V_va := V_va.keep K3 (ninS (Ne.symm ne_sb_va) nin0)
  replace hz : n0 ≤ hp3.size := Nat.le_trans hz K3.1
  replace KK : Keep h0 hp3 [sb] := KK.trans K3 (allS (Or.inl (by simp)) (all0))
  refine Go.aloadN d_sbiA_17 rfl rfl ?_
  refine Go.iconst 0 d_sbiA_18 rfl ?_
  refine Go.putFN (I' := IN) (hI := nI) (v' := (.int (0 : Int32))) (wd_100 hw) Via.refl F_sb_coder E_sb (Or.inl (wd_101 hw)) (wd_85 hw) (ty := .byte) (by decide) rfl rfl g_sb d_sbiA_19 fun hp4 W4 => ?_
  have K4 := Keep.of_wr W4
  replace F_sb_value := F_sb_value.other W4 (Or.inr (slot_ne (Or.inl (wd_99 hw)) (Or.inl (wd_101 hw)) (by decide) (t := (.array .byte)) (t' := .byte) (by decide) (by decide)))
  replace F_sb_coder := F_sb_coder.same W4
  replace F_sb_count := F_sb_count.other W4 (Or.inr (slot_ne (Or.inl (wd_123 hw)) (Or.inl (wd_101 hw)) (by decide) (t := .int) (t' := .byte) (by decide) (by decide)))
  replace F_sb_maybeLatin1 := F_sb_maybeLatin1.other W4 (Or.inr (slot_ne (Or.inl (wd_271 hw)) (Or.inl (wd_101 hw)) (by decide) (t := .boolean) (t' := .byte) (by decide) (by decide)))
  replace O := O.keep K4 (allS g_sb (all0))
  replace E_sb := E_sb.keep K4
  replace V_va := V_va.keep K4 (ninS (Ne.symm ne_sb_va) nin0)
  replace hz : n0 ≤ hp4.size := Nat.le_trans hz K4.1
  replace KK : Keep h0 hp4 [sb] := KK.trans K4 (allS (Or.inl (by simp)) (all0))
  refine Go.goto 38 d_sbiA_22 (by decide) (by decide) ?_
  -- at pc 38: pc 38: return .return_ stack []
  exact Go.return_ d_sbiA_38 rfl (by decide) (by decide) ⟨rfl, KK, va, k_va, g_va, s_va, E_sb, F_sb_value, F_sb_coder, F_sb_count, V_va.pad (fun i => (pad_rep [] (.int (0 : Int32)) 16 i).symm), F_sb_maybeLatin1⟩
theorem d_sbi_0 : decode jdk_67_method_1_code 0 = .ok (.aload_n 0, 1) := by decide +kernel
theorem d_sbi_1 : decode jdk_67_method_1_code 1 = .ok (.bipush 16, 2) := by decide +kernel
theorem d_sbi_3 : decode jdk_67_method_1_code 3 = .ok (.invokespecial 1, 3) := by decide +kernel
theorem d_sbi_6 : decode jdk_67_method_1_code 6 = .ok (.return_, 1) := by decide +kernel
abbrev R_sbi : Room := ({ frames := 2, cells := 1, slots := 16, locals := 25 } : Room)
abbrev GM_sbi (l : Launch) (Z : State) (n0 : Nat) (Q : Option Value → Heap → Prop) (h : Heap) (cells slots pc : Nat) (Ls : Array Slot) (st : List Value) : Prop := Go l Z n0 R_sbi "java/lang/StringBuilder" "<init>" jdk_67_method_1_code 1 none IN (FN n0 R_sbi Q) h cells slots pc Ls st
abbrev GW_sbi (l : Launch) (Z : State) (EL : List (String × Nat)) (s₀ : State) (n0 : Nat) (Q : Option Value → Heap → Prop) (lo : Nat) (Sf : List Addr) (h : Heap) (cells slots pc : Nat) (Ls : Array Slot) (st : List Value) : Prop := Go l Z n0 R_sbi "java/lang/StringBuilder" "<init>" jdk_67_method_1_code 1 none (IW Z EL s₀ lo Sf) (FW Z EL s₀ n0 R_sbi Q) h cells slots pc Ls st
theorem pf_sbi : plainFor (⟨"java/lang/StringBuilder", "<init>", "()V"⟩ : MethodName) = true := plainFor_of_name (by first | (simp [plainName, overriddenIn]; done) | decide +kernel)
theorem ct_sbi (l : Launch) (Z : State) (a0 : Array Value) (hw : ∀ d ∈ tables_1, d.before a0 Z = true) (n0 : Nat) (sb : Addr) (h0 : Heap) (hz : n0 ≤ h0.size) (O : Old Z n0 h0) (z : Int32) (S_cs : Sta Z Z.heap "java/lang/String" "COMPACT_STRINGS" "Z" (.int z)) (hcs : ¬ z = 0) (g_sb : n0 ≤ sb) (E_sb : Exa Z h0 sb "java/lang/StringBuilder") (F_sb_value : Fld Z h0 sb "java/lang/AbstractStringBuilder" "value" "[B" .null) (F_sb_coder : Fld Z h0 sb "java/lang/AbstractStringBuilder" "coder" "B" (.int (0 : Int32))) (F_sb_count : Fld Z h0 sb "java/lang/AbstractStringBuilder" "count" "I" (.int (0 : Int32))) (F_sb_maybeLatin1 : Fld Z h0 sb "java/lang/AbstractStringBuilder" "maybeLatin1" "Z" (.int (0 : Int32))) :
    Ct l Z n0 "java/lang/StringBuilder" "<init>" "()V" [] jdk_67_method_1_code 1 none R_sbi #[.ref sb] h0 (fun v h => v = none ∧ Keep h0 h [sb] ∧ ∃ (va : Addr) (kv : ClassId), n0 ≤ va ∧ h0.size ≤ va ∧ Sbd Z h sb va kv []) := by
  refine Ct.of_go pf_sbi (Ls := #[.val (.ref sb)]) (fun m => by first | rfl | (simp [entryFrame, mkF, argsToLocals, Value.category]; done)) ?_
  show GM_sbi l Z n0 (fun v h => v = none ∧ Keep h0 h [sb] ∧ ∃ (va : Addr) (kv : ClassId), n0 ≤ va ∧ h0.size ≤ va ∧ Sbd Z h sb va kv []) h0 0 0 0 #[.val (.ref sb)] []
  have KK : Keep h0 h0 [sb] := Keep.refl _ _
  refine Go.aloadN d_sbi_0 rfl rfl ?_
  refine Go.bipush 16 d_sbi_1 rfl ?_
  -- at pc 3: pc 3: invokespecial .invokespecial 1 stack [(.int (16 : Int32)), (.ref sb)]
  refine Go.callI (I' := IN) (hI := nQ) sb [(.int (16 : Int32))] [] (ct_sbiA l Z a0 hw n0 sb _ hz O z S_cs hcs g_sb E_sb F_sb_value F_sb_coder F_sb_count F_sb_maybeLatin1) (wd_90 hw) (wd_91 hw) (wd_94 hw) (wd_95 hw) (by decide) pd_1 rfl rfl rfl (Nat.le_of_ble_eq_true rfl) (Nat.le_of_ble_eq_true rfl) (Nat.le_of_ble_eq_true rfl) (Nat.le_of_ble_eq_true rfl) d_sbi_3 ?_
  rintro _ hp5 ⟨rfl, K5, va, kv, g_va, s_va, hS⟩
  replace E_sb := E_sb.keep K5
  replace KK : Keep h0 hp5 [sb] := KK.trans K5 (allS (Or.inl (by simp)) (all0))
  show GM_sbi l Z n0 (fun v h => v = none ∧ Keep h0 h [sb] ∧ ∃ (va : Addr) (kv : ClassId), n0 ≤ va ∧ h0.size ≤ va ∧ Sbd Z h sb va kv []) hp5 1 16 6 #[.val (.ref sb)] []
  -- at pc 6: pc 6: return .return_ stack []
  exact Go.return_ d_sbi_6 rfl (by decide) (by decide) ⟨rfl, KK, va, kv, g_va, s_va, hS⟩
theorem d_ecap_0 : decode jdk_68_method_9_code 0 = .ok (.aload_n 0, 1) := by decide +kernel
theorem d_ecap_1 : decode jdk_68_method_9_code 1 = .ok (.getfield 15, 3) := by decide +kernel
theorem d_ecap_4 : decode jdk_68_method_9_code 4 = .ok (.arraylength, 1) := by decide +kernel
theorem d_ecap_5 : decode jdk_68_method_9_code 5 = .ok (.aload_n 0, 1) := by decide +kernel
theorem d_ecap_6 : decode jdk_68_method_9_code 6 = .ok (.getfield 22, 3) := by decide +kernel
theorem d_ecap_9 : decode jdk_68_method_9_code 9 = .ok (.ishr, 1) := by decide +kernel
theorem d_ecap_10 : decode jdk_68_method_9_code 10 = .ok (.istore_n 2, 1) := by decide +kernel
theorem d_ecap_11 : decode jdk_68_method_9_code 11 = .ok (.iload_n 1, 1) := by decide +kernel
theorem d_ecap_12 : decode jdk_68_method_9_code 12 = .ok (.iload_n 2, 1) := by decide +kernel
theorem d_ecap_13 : decode jdk_68_method_9_code 13 = .ok (.isub, 1) := by decide +kernel
theorem d_ecap_14 : decode jdk_68_method_9_code 14 = .ok (.ifCond .le 24, 3) := by decide +kernel
theorem d_ecap_38 : decode jdk_68_method_9_code 38 = .ok (.return_, 1) := by decide +kernel
abbrev R_ecap : Room := ({ frames := 0, cells := 0, slots := 0, locals := 0 } : Room)
abbrev GM_ecap (l : Launch) (Z : State) (n0 : Nat) (Q : Option Value → Heap → Prop) (h : Heap) (cells slots pc : Nat) (Ls : Array Slot) (st : List Value) : Prop := Go l Z n0 R_ecap "java/lang/AbstractStringBuilder" "ensureCapacityInternal" jdk_68_method_9_code 3 none IN (FN n0 R_ecap Q) h cells slots pc Ls st
abbrev GW_ecap (l : Launch) (Z : State) (EL : List (String × Nat)) (s₀ : State) (n0 : Nat) (Q : Option Value → Heap → Prop) (lo : Nat) (Sf : List Addr) (h : Heap) (cells slots pc : Nat) (Ls : Array Slot) (st : List Value) : Prop := Go l Z n0 R_ecap "java/lang/AbstractStringBuilder" "ensureCapacityInternal" jdk_68_method_9_code 3 none (IW Z EL s₀ lo Sf) (FW Z EL s₀ n0 R_ecap Q) h cells slots pc Ls st
theorem pf_ecap : plainFor (⟨"java/lang/AbstractStringBuilder", "ensureCapacityInternal", "(I)V"⟩ : MethodName) = true := plainFor_of_name (by first | (simp [plainName, overriddenIn]; done) | decide +kernel)
theorem ct_ecap (l : Launch) (Z : State) (a0 : Array Value) (hw : ∀ d ∈ tables_1, d.before a0 Z = true) (n0 : Nat) (sb va : Addr) (kv : ClassId) (cs : List Int32) (m : Int32) (h0 : Heap) (B : Sbd Z h0 sb va kv cs) (hm : ¬ (0 : Int32) < m - ((16 : Int32) >>> ((0 : Int32) &&& 31))) : Ct l Z n0 "java/lang/AbstractStringBuilder" "ensureCapacityInternal" "(I)V" [] jdk_68_method_9_code 3 none R_ecap #[.ref sb, .int m] h0 (fun v h => v = none ∧ h0 = h) := by
  obtain ⟨E_sb, F_sb_value, F_sb_coder, F_sb_count, V_va, F_sb_maybeLatin1⟩ := B
  refine Ct.of_go pf_ecap (Ls := #[.val (.ref sb), .val (.int m), .unset]) (fun m => by first | rfl | (simp [entryFrame, mkF, argsToLocals, Value.category]; done)) ?_
  show GM_ecap l Z n0 (fun v h => v = none ∧ h0 = h) h0 0 0 0 #[.val (.ref sb), .val (.int m), .unset] []
  refine Go.aloadN d_ecap_0 rfl rfl ?_
  refine Go.getF (wd_98 hw) Via.refl F_sb_value d_ecap_1 ?_
  refine Go.arraylength V_va d_ecap_4 ?_
  refine Go.aloadN d_ecap_5 rfl rfl ?_
  refine Go.getF (wd_100 hw) Via.refl F_sb_coder d_ecap_6 ?_
  refine Go.ishr d_ecap_9 ?_
  refine Go.istoreN (Ls' := #[.val (.ref sb), .val (.int m), .val (.int ((16 : Int32) >>> ((0 : Int32) &&& 31)))]) d_ecap_10 rfl ?_
  refine Go.iloadN d_ecap_11 rfl ?_
  refine Go.iloadN d_ecap_12 rfl ?_
  refine Go.isub d_ecap_13 ?_
  -- at pc 14: pc 14: ifCond .ifCond .le 24 stack [(.int (m - ((16 : Int32) >>> ((0 : Int32) &&& 31))))]
  -- not: (0 : Int32) < (m - ((16 : Int32) >>> ((0 : Int32) &&& 31)))
  refine Go.ifT 38 d_ecap_14 (flt (hm)).2.2.2 (by decide) (by decide) ?_
  -- at pc 38: pc 38: return .return_ stack []
  exact Go.return_ d_ecap_38 rfl (by decide) (by decide) ⟨rfl, rfl⟩
theorem d_infl_0 : decode jdk_68_method_71_code 0 = .ok (.getstatic 18, 3) := by decide +kernel
theorem d_infl_3 : decode jdk_68_method_71_code 3 = .ok (.ifCond .eq 18, 3) := by decide +kernel
theorem d_infl_6 : decode jdk_68_method_71_code 6 = .ok (.aload_n 0, 1) := by decide +kernel
theorem d_infl_7 : decode jdk_68_method_71_code 7 = .ok (.getfield 22, 3) := by decide +kernel
theorem d_infl_10 : decode jdk_68_method_71_code 10 = .ok (.aload_n 1, 1) := by decide +kernel
theorem d_infl_11 : decode jdk_68_method_71_code 11 = .ok (.invokevirtual 40, 3) := by decide +kernel
theorem d_infl_14 : decode jdk_68_method_71_code 14 = .ok (.if_icmp .eq 7, 3) := by decide +kernel
theorem d_infl_17 : decode jdk_68_method_71_code 17 = .ok (.aload_n 0, 1) := by decide +kernel
theorem d_infl_18 : decode jdk_68_method_71_code 18 = .ok (.invokevirtual 195, 3) := by decide +kernel
theorem d_infl_21 : decode jdk_68_method_71_code 21 = .ok (.return_, 1) := by decide +kernel
abbrev R_infl : Room := ({ frames := 6, cells := 1, slots := 32, locals := 94 } : Room)
abbrev GM_infl (l : Launch) (Z : State) (n0 : Nat) (Q : Option Value → Heap → Prop) (h : Heap) (cells slots pc : Nat) (Ls : Array Slot) (st : List Value) : Prop := Go l Z n0 R_infl "java/lang/AbstractStringBuilder" "inflateIfNeededFor" jdk_68_method_71_code 2 none IN (FN n0 R_infl Q) h cells slots pc Ls st
abbrev GW_infl (l : Launch) (Z : State) (EL : List (String × Nat)) (s₀ : State) (n0 : Nat) (Q : Option Value → Heap → Prop) (lo : Nat) (Sf : List Addr) (h : Heap) (cells slots pc : Nat) (Ls : Array Slot) (st : List Value) : Prop := Go l Z n0 R_infl "java/lang/AbstractStringBuilder" "inflateIfNeededFor" jdk_68_method_71_code 2 none (IW Z EL s₀ lo Sf) (FW Z EL s₀ n0 R_infl Q) h cells slots pc Ls st
theorem pf_infl : plainFor (⟨"java/lang/AbstractStringBuilder", "inflateIfNeededFor", "(Ljava/lang/String;)V"⟩ : MethodName) = true := plainFor_of_name (by first | (simp [plainName, overriddenIn]; done) | decide +kernel)
theorem ct_infl (l : Launch) (Z : State) (a0 : Array Value) (hw : ∀ d ∈ tables_1, d.before a0 Z = true) (n0 : Nat) (sb va x t : Addr) (kv kt : ClassId) (cs bs : List Int32) (h0 : Heap) (O : Old Z n0 h0) (z : Int32) (S_cs : Sta Z Z.heap "java/lang/String" "COMPACT_STRINGS" "Z" (.int z)) (hcs : ¬ z = 0) (S : Sbd Z h0 sb va kv cs) (B : Byt Z h0 x t kt bs) : Ct l Z n0 "java/lang/AbstractStringBuilder" "inflateIfNeededFor" "(Ljava/lang/String;)V" [] jdk_68_method_71_code 2 none R_infl #[.ref sb, .ref x] h0 (fun v h => v = none ∧ h0 = h) := by
  obtain ⟨E_x, F_x_coder, F_x_value, V_t⟩ := B
  have F_sb_coder := S.2.2.1
  refine Ct.of_go pf_infl (Ls := #[.val (.ref sb), .val (.ref x)]) (fun m => by first | rfl | (simp [entryFrame, mkF, argsToLocals, Value.category]; done)) ?_
  show GM_infl l Z n0 (fun v h => v = none ∧ h0 = h) h0 0 0 0 #[.val (.ref sb), .val (.ref x)] []
  refine Go.getS (wd_97 hw) Via.refl (S_cs.ext O.2) d_infl_0 ?_
  -- at pc 3: pc 3: ifCond .ifCond .eq 18 stack [(.int z)]
  -- not: z = (0 : Int32)
  refine Go.ifF d_infl_3 (feq (hcs)).1 ?_
  refine Go.aloadN d_infl_6 rfl rfl ?_
  refine Go.getF (wd_100 hw) Via.refl F_sb_coder d_infl_7 ?_
  refine Go.aloadN d_infl_10 rfl rfl ?_
  -- at pc 11: pc 11: invokevirtual .invokevirtual 40 stack [(.ref x), (.int (0 : Int32))]
  refine Go.callV (I' := IN) (hI := nQ) x [] [(.int (0 : Int32))] (ct_scoder l Z a0 hw n0 x _ O z S_cs hcs F_x_coder) E_x (wd_139 hw) (wd_118 hw) (nf_sel (wd_120 hw)) (wd_120 hw) (wd_119 hw) (wd_3 hw) (wd_121 hw) (by decide) pd_0 rfl rfl rfl (Nat.le_of_ble_eq_true rfl) (Nat.le_of_ble_eq_true rfl) (Nat.le_of_ble_eq_true rfl) (Nat.le_of_ble_eq_true rfl) d_infl_11 ?_
  rintro _ _ ⟨rfl, rfl⟩
  show GM_infl l Z n0 (fun v h => v = none ∧ h0 = h) h0 0 0 14 #[.val (.ref sb), .val (.ref x)] [(.int (0 : Int32)), (.int (0 : Int32))]
  -- (0 : Int32) = (0 : Int32)
  refine Go.icT 21 d_infl_14 (teq (rfl)).1 (by decide) (by decide) ?_
  -- at pc 21: pc 21: return .return_ stack []
  exact Go.return_ d_infl_21 rfl (by decide) (by decide) ⟨rfl, rfl⟩
theorem d_getb_0 : decode jdk_42_method_147_code 0 = .ok (.aload_n 0, 1) := by decide +kernel
theorem d_getb_1 : decode jdk_42_method_147_code 1 = .ok (.invokevirtual 335, 3) := by decide +kernel
theorem d_getb_4 : decode jdk_42_method_147_code 4 = .ok (.iload_n 3, 1) := by decide +kernel
theorem d_getb_5 : decode jdk_42_method_147_code 5 = .ok (.if_icmp .ne 23, 3) := by decide +kernel
theorem d_getb_8 : decode jdk_42_method_147_code 8 = .ok (.aload_n 0, 1) := by decide +kernel
theorem d_getb_9 : decode jdk_42_method_147_code 9 = .ok (.getfield 9, 3) := by decide +kernel
theorem d_getb_12 : decode jdk_42_method_147_code 12 = .ok (.iconst 0, 1) := by decide +kernel
theorem d_getb_13 : decode jdk_42_method_147_code 13 = .ok (.aload_n 1, 1) := by decide +kernel
theorem d_getb_14 : decode jdk_42_method_147_code 14 = .ok (.iload_n 2, 1) := by decide +kernel
theorem d_getb_15 : decode jdk_42_method_147_code 15 = .ok (.iload_n 3, 1) := by decide +kernel
theorem d_getb_16 : decode jdk_42_method_147_code 16 = .ok (.ishl, 1) := by decide +kernel
theorem d_getb_17 : decode jdk_42_method_147_code 17 = .ok (.aload_n 0, 1) := by decide +kernel
theorem d_getb_18 : decode jdk_42_method_147_code 18 = .ok (.getfield 9, 3) := by decide +kernel
theorem d_getb_21 : decode jdk_42_method_147_code 21 = .ok (.arraylength, 1) := by decide +kernel
theorem d_getb_22 : decode jdk_42_method_147_code 22 = .ok (.invokestatic 212, 3) := by decide +kernel
theorem d_getb_25 : decode jdk_42_method_147_code 25 = .ok (.goto 18, 3) := by decide +kernel
theorem d_getb_28 : decode jdk_42_method_147_code 28 = .ok (.aload_n 0, 1) := by decide +kernel
theorem d_getb_29 : decode jdk_42_method_147_code 29 = .ok (.getfield 9, 3) := by decide +kernel
theorem d_getb_32 : decode jdk_42_method_147_code 32 = .ok (.iconst 0, 1) := by decide +kernel
theorem d_getb_33 : decode jdk_42_method_147_code 33 = .ok (.aload_n 1, 1) := by decide +kernel
theorem d_getb_34 : decode jdk_42_method_147_code 34 = .ok (.iload_n 2, 1) := by decide +kernel
theorem d_getb_35 : decode jdk_42_method_147_code 35 = .ok (.aload_n 0, 1) := by decide +kernel
theorem d_getb_36 : decode jdk_42_method_147_code 36 = .ok (.getfield 9, 3) := by decide +kernel
theorem d_getb_39 : decode jdk_42_method_147_code 39 = .ok (.arraylength, 1) := by decide +kernel
theorem d_getb_40 : decode jdk_42_method_147_code 40 = .ok (.invokestatic 106, 3) := by decide +kernel
theorem d_getb_43 : decode jdk_42_method_147_code 43 = .ok (.return_, 1) := by decide +kernel
abbrev R_getb : Room := ({ frames := 5, cells := 0, slots := 0, locals := 80 } : Room)
abbrev GM_getb (l : Launch) (Z : State) (n0 : Nat) (Q : Option Value → Heap → Prop) (h : Heap) (cells slots pc : Nat) (Ls : Array Slot) (st : List Value) : Prop := Go l Z n0 R_getb "java/lang/String" "getBytes" jdk_42_method_147_code 4 none IN (FN n0 R_getb Q) h cells slots pc Ls st
abbrev GW_getb (l : Launch) (Z : State) (EL : List (String × Nat)) (s₀ : State) (n0 : Nat) (Q : Option Value → Heap → Prop) (lo : Nat) (Sf : List Addr) (h : Heap) (cells slots pc : Nat) (Ls : Array Slot) (st : List Value) : Prop := Go l Z n0 R_getb "java/lang/String" "getBytes" jdk_42_method_147_code 4 none (IW Z EL s₀ lo Sf) (FW Z EL s₀ n0 R_getb Q) h cells slots pc Ls st
theorem pf_getb : plainFor (⟨"java/lang/String", "getBytes", "([BIB)V"⟩ : MethodName) = true := plainFor_of_name (by first | (simp [plainName, overriddenIn]; done) | decide +kernel)
theorem ct_getb (l : Launch) (Z : State) (a0 : Array Value) (hw : ∀ d ∈ tables_1, d.before a0 Z = true) (n0 : Nat) (va x t : Addr) (kv kt : ClassId) (cs bs : List Int32) (h0 : Heap) (O : Old Z n0 h0) (z : Int32) (S_cs : Sta Z Z.heap "java/lang/String" "COMPACT_STRINGS" "Z" (.int z)) (hcs : ¬ z = 0) (g_va : n0 ≤ va) (V_va : Arv Z h0 va kv .byte (16 : Int32) (cs.map Value.int) (.int (0 : Int32))) (B : Byt Z h0 x t kt bs) (hl : cs.length + bs.length ≤ 16) :
    Ct l Z n0 "java/lang/String" "getBytes" "([BIB)V" [] jdk_42_method_147_code 4 none R_getb #[.ref x, .ref va, .int (Int32.ofNat cs.length), .int (0 : Int32)] h0 (fun v h => v = none ∧ Keep h0 h [va] ∧ Arv Z h va kv .byte (16 : Int32) ((cs ++ bs).map Value.int) (.int (0 : Int32))) := by
  obtain ⟨E_x, F_x_coder, F_x_value, V_t⟩ := B
  refine Ct.of_go pf_getb (Ls := #[.val (.ref x), .val (.ref va), .val (.int (Int32.ofNat cs.length)), .val (.int (0 : Int32))]) (fun m => by first | rfl | (simp [entryFrame, mkF, argsToLocals, Value.category]; done)) ?_
  show GM_getb l Z n0 (fun v h => v = none ∧ Keep h0 h [va] ∧ Arv Z h va kv .byte (16 : Int32) ((cs ++ bs).map Value.int) (.int (0 : Int32))) h0 0 0 0 #[.val (.ref x), .val (.ref va), .val (.int (Int32.ofNat cs.length)), .val (.int (0 : Int32))] []
  refine Go.aloadN d_getb_0 rfl rfl ?_
  -- at pc 1: pc 1: invokevirtual .invokevirtual 335 stack [(.ref x)]
  refine Go.callV (I' := IN) (hI := nQ) x [] [] (ct_scoder l Z a0 hw n0 x _ O z S_cs hcs F_x_coder) E_x (wd_117 hw) (wd_118 hw) (nf_sel (wd_120 hw)) (wd_120 hw) (wd_119 hw) (wd_3 hw) (wd_121 hw) (by decide) pd_0 rfl rfl rfl (Nat.le_of_ble_eq_true rfl) (Nat.le_of_ble_eq_true rfl) (Nat.le_of_ble_eq_true rfl) (Nat.le_of_ble_eq_true rfl) d_getb_1 ?_
  rintro _ _ ⟨rfl, rfl⟩
  show GM_getb l Z n0 (fun v h => v = none ∧ Keep h0 h [va] ∧ Arv Z h va kv .byte (16 : Int32) ((cs ++ bs).map Value.int) (.int (0 : Int32))) h0 0 0 4 #[.val (.ref x), .val (.ref va), .val (.int (Int32.ofNat cs.length)), .val (.int (0 : Int32))] [(.int (0 : Int32))]
  refine Go.iloadN d_getb_4 rfl ?_
  -- at pc 5: pc 5: if_icmp .if_icmp .ne 23 stack [(.int (0 : Int32)), (.int (0 : Int32))]
  -- (0 : Int32) = (0 : Int32)
  refine Go.icF d_getb_5 (teq (rfl)).2 ?_
  refine Go.aloadN d_getb_8 rfl rfl ?_
  refine Go.getF (wd_29 hw) Via.refl F_x_value d_getb_9 ?_
  refine Go.iconst 0 d_getb_12 rfl ?_
  refine Go.aloadN d_getb_13 rfl rfl ?_
  refine Go.iloadN d_getb_14 rfl ?_
  refine Go.iloadN d_getb_15 rfl ?_
  refine Go.ishl d_getb_16 ?_
  rw [show ((Int32.ofNat cs.length) <<< ((0 : Int32) &&& 31)) = (Int32.ofNat cs.length) from (own_shl0 _)]
  refine Go.aloadN d_getb_17 rfl rfl ?_
  refine Go.getF (wd_29 hw) Via.refl F_x_value d_getb_18 ?_
  refine Go.arraylength V_t d_getb_21 ?_
  refine Go.copyB (I' := IN) (hI := nI) (bs.map Value.int) V_t (V_va.pad (pad_rep _ _ (16 - cs.length))) rfl (wd_145 hw) (wd_148 hw) (wd_146 hw) (wd_147 hw) (by decide) (own_nneg (by omega)) (own_nneg (by omega)) (by rw [own_clamp (by omega)]; show 0 + bs.length ≤ bs.length; omega) (by rw [own_clamp (by omega), own_clamp (by omega)]; show cs.length + bs.length ≤ 16; omega) (by rw [own_clamp (by omega)]; exact own_range (by simp)) (by rw [own_clamp (by omega), own_clamp (by omega)]; simp; omega) g_va d_getb_22 rfl (by decide) (by decide) fun h1 K1 V1 => ?_
  replace V1 := own_put hl V1
  show GM_getb l Z n0 (fun v h => v = none ∧ Keep h0 h [va] ∧ Arv Z h va kv .byte (16 : Int32) ((cs ++ bs).map Value.int) (.int (0 : Int32))) h1 0 0 25 #[.val (.ref x), .val (.ref va), .val (.int (Int32.ofNat cs.length)), .val (.int (0 : Int32))] []
  refine Go.goto 43 d_getb_25 (by decide) (by decide) ?_
  -- at pc 43: pc 43: return .return_ stack []
  exact Go.return_ d_getb_43 rfl (by decide) (by decide) ⟨rfl, K1, V1⟩
theorem d_puts_0 : decode jdk_68_method_73_code 0 = .ok (.aload_n 0, 1) := by decide +kernel
theorem d_puts_1 : decode jdk_68_method_73_code 1 = .ok (.aload_n 2, 1) := by decide +kernel
theorem d_puts_2 : decode jdk_68_method_73_code 2 = .ok (.invokevirtual 397, 3) := by decide +kernel
theorem d_puts_5 : decode jdk_68_method_73_code 5 = .ok (.aload_n 2, 1) := by decide +kernel
theorem d_puts_6 : decode jdk_68_method_73_code 6 = .ok (.aload_n 0, 1) := by decide +kernel
theorem d_puts_7 : decode jdk_68_method_73_code 7 = .ok (.getfield 15, 3) := by decide +kernel
theorem d_puts_10 : decode jdk_68_method_73_code 10 = .ok (.iload_n 1, 1) := by decide +kernel
theorem d_puts_11 : decode jdk_68_method_73_code 11 = .ok (.aload_n 0, 1) := by decide +kernel
theorem d_puts_12 : decode jdk_68_method_73_code 12 = .ok (.getfield 22, 3) := by decide +kernel
theorem d_puts_15 : decode jdk_68_method_73_code 15 = .ok (.invokevirtual 399, 3) := by decide +kernel
theorem d_puts_18 : decode jdk_68_method_73_code 18 = .ok (.return_, 1) := by decide +kernel
abbrev R_puts : Room := ({ frames := 7, cells := 1, slots := 32, locals := 108 } : Room)
abbrev GM_puts (l : Launch) (Z : State) (n0 : Nat) (Q : Option Value → Heap → Prop) (h : Heap) (cells slots pc : Nat) (Ls : Array Slot) (st : List Value) : Prop := Go l Z n0 R_puts "java/lang/AbstractStringBuilder" "putStringAt" jdk_68_method_73_code 3 none IN (FN n0 R_puts Q) h cells slots pc Ls st
abbrev GW_puts (l : Launch) (Z : State) (EL : List (String × Nat)) (s₀ : State) (n0 : Nat) (Q : Option Value → Heap → Prop) (lo : Nat) (Sf : List Addr) (h : Heap) (cells slots pc : Nat) (Ls : Array Slot) (st : List Value) : Prop := Go l Z n0 R_puts "java/lang/AbstractStringBuilder" "putStringAt" jdk_68_method_73_code 3 none (IW Z EL s₀ lo Sf) (FW Z EL s₀ n0 R_puts Q) h cells slots pc Ls st
theorem pf_puts : plainFor (⟨"java/lang/AbstractStringBuilder", "putStringAt", "(ILjava/lang/String;)V"⟩ : MethodName) = true := plainFor_of_name (by first | (simp [plainName, overriddenIn]; done) | decide +kernel)
theorem ct_puts (l : Launch) (Z : State) (a0 : Array Value) (hw : ∀ d ∈ tables_1, d.before a0 Z = true) (n0 : Nat) (sb va x t : Addr) (kv kt : ClassId) (cs bs : List Int32) (h0 : Heap) (O : Old Z n0 h0) (z : Int32) (S_cs : Sta Z Z.heap "java/lang/String" "COMPACT_STRINGS" "Z" (.int z)) (hcs : ¬ z = 0) (g_va : n0 ≤ va) (S : Sbd Z h0 sb va kv cs) (B : Byt Z h0 x t kt bs) (hl : cs.length + bs.length ≤ 16) :
    Ct l Z n0 "java/lang/AbstractStringBuilder" "putStringAt" "(ILjava/lang/String;)V" [] jdk_68_method_73_code 3 none R_puts #[.ref sb, .int (Int32.ofNat cs.length), .ref x] h0 (fun v h => v = none ∧ Keep h0 h [va] ∧ Arv Z h va kv .byte (16 : Int32) ((cs ++ bs).map Value.int) (.int (0 : Int32))) := by
  have E_x := B.1
  have S0 := S
  obtain ⟨E_sb, F_sb_value, F_sb_coder, F_sb_count, V_va, F_sb_maybeLatin1⟩ := S
  refine Ct.of_go pf_puts (Ls := #[.val (.ref sb), .val (.int (Int32.ofNat cs.length)), .val (.ref x)]) (fun m => by first | rfl | (simp [entryFrame, mkF, argsToLocals, Value.category]; done)) ?_
  show GM_puts l Z n0 (fun v h => v = none ∧ Keep h0 h [va] ∧ Arv Z h va kv .byte (16 : Int32) ((cs ++ bs).map Value.int) (.int (0 : Int32))) h0 0 0 0 #[.val (.ref sb), .val (.int (Int32.ofNat cs.length)), .val (.ref x)] []
  refine Go.aloadN d_puts_0 rfl rfl ?_
  refine Go.aloadN d_puts_1 rfl rfl ?_
  -- at pc 2: pc 2: invokevirtual .invokevirtual 397 stack [(.ref x), (.ref sb)]
  refine Go.callP (I' := IN) (hI := nQ) sb [(.ref x)] [] (ct_infl l Z a0 hw n0 sb va x t kv kt cs bs _ O z S_cs hcs S0 B) E_sb (wd_134 hw) (wd_135 hw) (sel_priv2 (y := (⟨"java/lang/AbstractStringBuilder", "inflateIfNeededFor", "(Ljava/lang/String;)V"⟩ : MethodName)) (show Ord Z "java/lang/AbstractStringBuilder" from Ord.sel (wd_127 hw)) (wd_135 hw) (wd_136 hw) (by decide)) (wd_136 hw) (wd_94 hw) (wd_138 hw) (by decide) pd_2 rfl rfl rfl (Nat.le_of_ble_eq_true rfl) (Nat.le_of_ble_eq_true rfl) (Nat.le_of_ble_eq_true rfl) (Nat.le_of_ble_eq_true rfl) d_puts_2 ?_
  rintro _ _ ⟨rfl, rfl⟩
  show GM_puts l Z n0 (fun v h => v = none ∧ Keep h0 h [va] ∧ Arv Z h va kv .byte (16 : Int32) ((cs ++ bs).map Value.int) (.int (0 : Int32))) h0 1 32 5 #[.val (.ref sb), .val (.int (Int32.ofNat cs.length)), .val (.ref x)] []
  refine Go.aloadN d_puts_5 rfl rfl ?_
  refine Go.aloadN d_puts_6 rfl rfl ?_
  refine Go.getF (wd_98 hw) Via.refl F_sb_value d_puts_7 ?_
  refine Go.iloadN d_puts_10 rfl ?_
  refine Go.aloadN d_puts_11 rfl rfl ?_
  refine Go.getF (wd_100 hw) Via.refl F_sb_coder d_puts_12 ?_
  -- at pc 15: pc 15: invokevirtual .invokevirtual 399 stack [(.int (0 : Int32)), (.int (Int32.ofNat cs.length)), (.ref va), (.ref x)]
  refine Go.callV (I' := IN) (hI := nQ) x [(.ref va), (.int (Int32.ofNat cs.length)), (.int (0 : Int32))] [] (ct_getb l Z a0 hw n0 va x t kv kt cs bs _ O z S_cs hcs g_va V_va B hl) E_x (wd_140 hw) (wd_141 hw) (nf_sel (wd_143 hw)) (wd_143 hw) (wd_142 hw) (wd_3 hw) (wd_144 hw) (by decide) pd_3 rfl rfl rfl (Nat.le_of_ble_eq_true rfl) (Nat.le_of_ble_eq_true rfl) (Nat.le_of_ble_eq_true rfl) (Nat.le_of_ble_eq_true rfl) d_puts_15 ?_
  rintro _ hp9 ⟨rfl, K1, V1⟩
  show GM_puts l Z n0 (fun v h => v = none ∧ Keep h0 h [va] ∧ Arv Z h va kv .byte (16 : Int32) ((cs ++ bs).map Value.int) (.int (0 : Int32))) hp9 1 32 18 #[.val (.ref sb), .val (.int (Int32.ofNat cs.length)), .val (.ref x)] []
  -- at pc 18: pc 18: return .return_ stack []
  exact Go.return_ d_puts_18 rfl (by decide) (by decide) ⟨rfl, K1, V1⟩
theorem d_apA_0 : decode jdk_68_method_22_code 0 = .ok (.aload_n 1, 1) := by decide +kernel
theorem d_apA_1 : decode jdk_68_method_22_code 1 = .ok (.ifnonnull 8, 3) := by decide +kernel
theorem d_apA_9 : decode jdk_68_method_22_code 9 = .ok (.aload_n 1, 1) := by decide +kernel
theorem d_apA_10 : decode jdk_68_method_22_code 10 = .ok (.invokevirtual 32, 3) := by decide +kernel
theorem d_apA_13 : decode jdk_68_method_22_code 13 = .ok (.istore_n 2, 1) := by decide +kernel
theorem d_apA_14 : decode jdk_68_method_22_code 14 = .ok (.aload_n 0, 1) := by decide +kernel
theorem d_apA_15 : decode jdk_68_method_22_code 15 = .ok (.aload_n 0, 1) := by decide +kernel
theorem d_apA_16 : decode jdk_68_method_22_code 16 = .ok (.getfield 79, 3) := by decide +kernel
theorem d_apA_19 : decode jdk_68_method_22_code 19 = .ok (.iload_n 2, 1) := by decide +kernel
theorem d_apA_20 : decode jdk_68_method_22_code 20 = .ok (.iadd, 1) := by decide +kernel
theorem d_apA_21 : decode jdk_68_method_22_code 21 = .ok (.invokevirtual 100, 3) := by decide +kernel
theorem d_apA_24 : decode jdk_68_method_22_code 24 = .ok (.aload_n 0, 1) := by decide +kernel
theorem d_apA_25 : decode jdk_68_method_22_code 25 = .ok (.aload_n 0, 1) := by decide +kernel
theorem d_apA_26 : decode jdk_68_method_22_code 26 = .ok (.getfield 79, 3) := by decide +kernel
theorem d_apA_29 : decode jdk_68_method_22_code 29 = .ok (.aload_n 1, 1) := by decide +kernel
theorem d_apA_30 : decode jdk_68_method_22_code 30 = .ok (.invokevirtual 208, 3) := by decide +kernel
theorem d_apA_33 : decode jdk_68_method_22_code 33 = .ok (.aload_n 0, 1) := by decide +kernel
theorem d_apA_34 : decode jdk_68_method_22_code 34 = .ok (.dup, 1) := by decide +kernel
theorem d_apA_35 : decode jdk_68_method_22_code 35 = .ok (.getfield 79, 3) := by decide +kernel
theorem d_apA_38 : decode jdk_68_method_22_code 38 = .ok (.iload_n 2, 1) := by decide +kernel
theorem d_apA_39 : decode jdk_68_method_22_code 39 = .ok (.iadd, 1) := by decide +kernel
theorem d_apA_40 : decode jdk_68_method_22_code 40 = .ok (.putfield 79, 3) := by decide +kernel
theorem d_apA_43 : decode jdk_68_method_22_code 43 = .ok (.aload_n 0, 1) := by decide +kernel
theorem d_apA_44 : decode jdk_68_method_22_code 44 = .ok (.areturn, 1) := by decide +kernel
abbrev R_apA : Room := ({ frames := 8, cells := 1, slots := 32, locals := 122 } : Room)
abbrev GM_apA (l : Launch) (Z : State) (n0 : Nat) (Q : Option Value → Heap → Prop) (h : Heap) (cells slots pc : Nat) (Ls : Array Slot) (st : List Value) : Prop := Go l Z n0 R_apA "java/lang/AbstractStringBuilder" "append" jdk_68_method_22_code 3 (some (.object "java/lang/AbstractStringBuilder")) IN (FN n0 R_apA Q) h cells slots pc Ls st
abbrev GW_apA (l : Launch) (Z : State) (EL : List (String × Nat)) (s₀ : State) (n0 : Nat) (Q : Option Value → Heap → Prop) (lo : Nat) (Sf : List Addr) (h : Heap) (cells slots pc : Nat) (Ls : Array Slot) (st : List Value) : Prop := Go l Z n0 R_apA "java/lang/AbstractStringBuilder" "append" jdk_68_method_22_code 3 (some (.object "java/lang/AbstractStringBuilder")) (IW Z EL s₀ lo Sf) (FW Z EL s₀ n0 R_apA Q) h cells slots pc Ls st
theorem pf_apA : plainFor (⟨"java/lang/AbstractStringBuilder", "append", "(Ljava/lang/String;)Ljava/lang/AbstractStringBuilder;"⟩ : MethodName) = true := plainFor_of_name (by first | (simp [plainName, overriddenIn]; done) | decide +kernel)
theorem ct_apA (l : Launch) (Z : State) (a0 : Array Value) (hw : ∀ d ∈ tables_1, d.before a0 Z = true) (n0 : Nat) (sb va x t : Addr) (kv kt : ClassId) (cs bs : List Int32) (h0 : Heap) (O : Old Z n0 h0) (z : Int32) (S_cs : Sta Z Z.heap "java/lang/String" "COMPACT_STRINGS" "Z" (.int z)) (hcs : ¬ z = 0) (g_sb : n0 ≤ sb) (g_va : n0 ≤ va) (nsv : sb ≠ va) (S : Sbd Z h0 sb va kv cs) (B : Byt Z h0 x t kt bs) (hl : cs.length + bs.length ≤ 16) :
    Ct l Z n0 "java/lang/AbstractStringBuilder" "append" "(Ljava/lang/String;)Ljava/lang/AbstractStringBuilder;" [] jdk_68_method_22_code 3 (some (.object "java/lang/AbstractStringBuilder")) R_apA #[.ref sb, .ref x] h0 (fun v h => v = some (.ref sb) ∧ Keep h0 h [sb, va] ∧ Sbd Z h sb va kv (cs ++ bs)) := by
  have E_x := B.1
  have S0 := S
  obtain ⟨E_sb, F_sb_value, F_sb_coder, F_sb_count, V_va, F_sb_maybeLatin1⟩ := S
  refine Ct.of_go pf_apA (Ls := #[.val (.ref sb), .val (.ref x), .unset]) (fun m => by first | rfl | (simp [entryFrame, mkF, argsToLocals, Value.category]; done)) ?_
  show GM_apA l Z n0 (fun v h => v = some (.ref sb) ∧ Keep h0 h [sb, va] ∧ Sbd Z h sb va kv (cs ++ bs)) h0 0 0 0 #[.val (.ref sb), .val (.ref x), .unset] []
  have KK : Keep h0 h0 [sb, va] := Keep.refl _ _
  refine Go.aloadN d_apA_0 rfl rfl ?_
  refine Go.nnT 9 d_apA_1 (by decide) (by decide) ?_
  refine Go.aloadN d_apA_9 rfl rfl ?_
  -- at pc 10: pc 10: invokevirtual .invokevirtual 32 stack [(.ref x)]
  refine Go.callV (I' := IN) (hI := nQ) x [] [] (ct_slen l Z a0 hw n0 x t kt bs _ O z S_cs hcs B) E_x (wd_112 hw) (wd_113 hw) (nf_sel (wd_115 hw)) (wd_115 hw) (wd_114 hw) (wd_3 hw) (wd_116 hw) (by decide) pd_4 rfl rfl rfl (Nat.le_of_ble_eq_true rfl) (Nat.le_of_ble_eq_true rfl) (Nat.le_of_ble_eq_true rfl) (Nat.le_of_ble_eq_true rfl) d_apA_10 ?_
  rintro _ _ ⟨rfl, rfl⟩
  show GM_apA l Z n0 (fun v h => v = some (.ref sb) ∧ Keep h0 h [sb, va] ∧ Sbd Z h sb va kv (cs ++ bs)) h0 0 0 13 #[.val (.ref sb), .val (.ref x), .unset] [(.int (Int32.ofNat bs.length))]
  refine Go.istoreN (Ls' := #[.val (.ref sb), .val (.ref x), .val (.int (Int32.ofNat bs.length))]) d_apA_13 rfl ?_
  refine Go.aloadN d_apA_14 rfl rfl ?_
  refine Go.aloadN d_apA_15 rfl rfl ?_
  refine Go.getF (wd_122 hw) Via.refl F_sb_count d_apA_16 ?_
  refine Go.iloadN d_apA_19 rfl ?_
  refine Go.iadd d_apA_20 ?_
  -- at pc 21: pc 21: invokevirtual .invokevirtual 100 stack [(.int ((Int32.ofNat cs.length) + (Int32.ofNat bs.length))), (.ref sb)]
  refine Go.callP (I' := IN) (hI := nQ) sb [(.int ((Int32.ofNat cs.length) + (Int32.ofNat bs.length)))] [] (ct_ecap l Z a0 hw n0 sb va kv cs ((Int32.ofNat cs.length) + (Int32.ofNat bs.length)) _ S0 (by rw [own_cnt]; exact own_cap _ (by rw [List.length_append]; exact hl))) E_sb (wd_124 hw) (wd_125 hw) (sel_priv2 (y := (⟨"java/lang/AbstractStringBuilder", "ensureCapacityInternal", "(I)V"⟩ : MethodName)) (show Ord Z "java/lang/AbstractStringBuilder" from Ord.sel (wd_127 hw)) (wd_125 hw) (wd_126 hw) (by decide)) (wd_126 hw) (wd_94 hw) (wd_128 hw) (by decide) pd_1 rfl rfl rfl (Nat.le_of_ble_eq_true rfl) (Nat.le_of_ble_eq_true rfl) (Nat.le_of_ble_eq_true rfl) (Nat.le_of_ble_eq_true rfl) d_apA_21 ?_
  rintro _ _ ⟨rfl, rfl⟩
  show GM_apA l Z n0 (fun v h => v = some (.ref sb) ∧ Keep h0 h [sb, va] ∧ Sbd Z h sb va kv (cs ++ bs)) h0 0 0 24 #[.val (.ref sb), .val (.ref x), .val (.int (Int32.ofNat bs.length))] []
  refine Go.aloadN d_apA_24 rfl rfl ?_
  refine Go.aloadN d_apA_25 rfl rfl ?_
  refine Go.getF (wd_122 hw) Via.refl F_sb_count d_apA_26 ?_
  refine Go.aloadN d_apA_29 rfl rfl ?_
  -- at pc 30: pc 30: invokevirtual .invokevirtual 208 stack [(.ref x), (.int (Int32.ofNat cs.length)), (.ref sb)]
  refine Go.callP (I' := IN) (hI := nQ) sb [(.int (Int32.ofNat cs.length)), (.ref x)] [] (ct_puts l Z a0 hw n0 sb va x t kv kt cs bs _ O z S_cs hcs g_va S0 B hl) E_sb (wd_129 hw) (wd_130 hw) (sel_priv2 (y := (⟨"java/lang/AbstractStringBuilder", "putStringAt", "(ILjava/lang/String;)V"⟩ : MethodName)) (show Ord Z "java/lang/AbstractStringBuilder" from Ord.sel (wd_127 hw)) (wd_130 hw) (wd_131 hw) (by decide)) (wd_131 hw) (wd_94 hw) (wd_133 hw) (by decide) pd_5 rfl rfl rfl (Nat.le_of_ble_eq_true rfl) (Nat.le_of_ble_eq_true rfl) (Nat.le_of_ble_eq_true rfl) (Nat.le_of_ble_eq_true rfl) d_apA_30 ?_
  rintro _ hp12 ⟨rfl, K12, V1⟩
  replace E_x := E_x.keep K12
  replace E_sb := E_sb.keep K12
  replace F_sb_value := F_sb_value.keep K12 (ninS nsv nin0)
  replace F_sb_coder := F_sb_coder.keep K12 (ninS nsv nin0)
  replace F_sb_count := F_sb_count.keep K12 (ninS nsv nin0)
  replace F_sb_maybeLatin1 := F_sb_maybeLatin1.keep K12 (ninS nsv nin0)
  replace KK : Keep h0 hp12 [sb, va] := KK.trans K12 (allS (Or.inl (by simp)) (all0))
  show GM_apA l Z n0 (fun v h => v = some (.ref sb) ∧ Keep h0 h [sb, va] ∧ Sbd Z h sb va kv (cs ++ bs)) hp12 1 32 33 #[.val (.ref sb), .val (.ref x), .val (.int (Int32.ofNat bs.length))] []
  refine Go.aloadN d_apA_33 rfl rfl ?_
  refine Go.dup d_apA_34 rfl ?_
  refine Go.getF (wd_122 hw) Via.refl F_sb_count d_apA_35 ?_
  refine Go.iloadN d_apA_38 rfl ?_
  refine Go.iadd d_apA_39 ?_
  refine Go.putF (I' := IN) (hI := nI) (wd_122 hw) Via.refl F_sb_count E_sb (Or.inl (wd_123 hw)) (wd_85 hw) (ty := .int) (by decide) rfl rfl g_sb d_apA_40 fun hp13 W13 => ?_
  have K13 := Keep.of_wr W13
  replace F_sb_value := F_sb_value.other W13 (Or.inr (slot_ne (Or.inl (wd_99 hw)) (Or.inl (wd_123 hw)) (by decide) (t := (.array .byte)) (t' := .int) (by decide) (by decide)))
  replace F_sb_coder := F_sb_coder.other W13 (Or.inr (slot_ne (Or.inl (wd_101 hw)) (Or.inl (wd_123 hw)) (by decide) (t := .byte) (t' := .int) (by decide) (by decide)))
  replace F_sb_count := F_sb_count.same W13
  replace F_sb_maybeLatin1 := F_sb_maybeLatin1.other W13 (Or.inr (slot_ne (Or.inl (wd_271 hw)) (Or.inl (wd_123 hw)) (by decide) (t := .boolean) (t' := .int) (by decide) (by decide)))
  replace E_x := E_x.keep K13
  replace E_sb := E_sb.keep K13
  replace V1 := V1.keep K13 (ninS (Ne.symm nsv) nin0)
  replace KK : Keep h0 hp13 [sb, va] := KK.trans K13 (allS (Or.inl (by simp)) (all0))
  refine Go.aloadN d_apA_43 rfl rfl ?_
  -- at pc 44: pc 44: areturn .areturn stack [(.ref sb)]
  exact Go.areturn d_apA_44 rfl rfl rfl (by decide) (by decide) ⟨rfl, KK, E_sb, F_sb_value, F_sb_coder, by rw [← own_cnt]; exact F_sb_count, V1, F_sb_maybeLatin1⟩
theorem d_ap_0 : decode jdk_67_method_7_code 0 = .ok (.aload_n 0, 1) := by decide +kernel
theorem d_ap_1 : decode jdk_67_method_7_code 1 = .ok (.aload_n 1, 1) := by decide +kernel
theorem d_ap_2 : decode jdk_67_method_7_code 2 = .ok (.invokespecial 29, 3) := by decide +kernel
theorem d_ap_5 : decode jdk_67_method_7_code 5 = .ok (.pop, 1) := by decide +kernel
theorem d_ap_6 : decode jdk_67_method_7_code 6 = .ok (.aload_n 0, 1) := by decide +kernel
theorem d_ap_7 : decode jdk_67_method_7_code 7 = .ok (.areturn, 1) := by decide +kernel
abbrev R_ap : Room := ({ frames := 9, cells := 1, slots := 32, locals := 136 } : Room)
abbrev GM_ap (l : Launch) (Z : State) (n0 : Nat) (Q : Option Value → Heap → Prop) (h : Heap) (cells slots pc : Nat) (Ls : Array Slot) (st : List Value) : Prop := Go l Z n0 R_ap "java/lang/StringBuilder" "append" jdk_67_method_7_code 2 (some (.object "java/lang/StringBuilder")) IN (FN n0 R_ap Q) h cells slots pc Ls st
abbrev GW_ap (l : Launch) (Z : State) (EL : List (String × Nat)) (s₀ : State) (n0 : Nat) (Q : Option Value → Heap → Prop) (lo : Nat) (Sf : List Addr) (h : Heap) (cells slots pc : Nat) (Ls : Array Slot) (st : List Value) : Prop := Go l Z n0 R_ap "java/lang/StringBuilder" "append" jdk_67_method_7_code 2 (some (.object "java/lang/StringBuilder")) (IW Z EL s₀ lo Sf) (FW Z EL s₀ n0 R_ap Q) h cells slots pc Ls st
theorem pf_ap : plainFor (⟨"java/lang/StringBuilder", "append", "(Ljava/lang/String;)Ljava/lang/StringBuilder;"⟩ : MethodName) = true := plainFor_of_name (by first | (simp [plainName, overriddenIn]; done) | decide +kernel)
theorem ct_ap (l : Launch) (Z : State) (a0 : Array Value) (hw : ∀ d ∈ tables_1, d.before a0 Z = true) (n0 : Nat) (sb va x t : Addr) (kv kt : ClassId) (cs bs : List Int32) (h0 : Heap) (O : Old Z n0 h0) (z : Int32) (S_cs : Sta Z Z.heap "java/lang/String" "COMPACT_STRINGS" "Z" (.int z)) (hcs : ¬ z = 0) (g_sb : n0 ≤ sb) (g_va : n0 ≤ va) (nsv : sb ≠ va) (S : Sbd Z h0 sb va kv cs) (B : Byt Z h0 x t kt bs) (hl : cs.length + bs.length ≤ 16) :
    Ct l Z n0 "java/lang/StringBuilder" "append" "(Ljava/lang/String;)Ljava/lang/StringBuilder;" [] jdk_67_method_7_code 2 (some (.object "java/lang/StringBuilder")) R_ap #[.ref sb, .ref x] h0 (fun v h => v = some (.ref sb) ∧ Keep h0 h [sb, va] ∧ Sbd Z h sb va kv (cs ++ bs)) := by
  have E_sb := S.1
  refine Ct.of_go pf_ap (Ls := #[.val (.ref sb), .val (.ref x)]) (fun m => by first | rfl | (simp [entryFrame, mkF, argsToLocals, Value.category]; done)) ?_
  show GM_ap l Z n0 (fun v h => v = some (.ref sb) ∧ Keep h0 h [sb, va] ∧ Sbd Z h sb va kv (cs ++ bs)) h0 0 0 0 #[.val (.ref sb), .val (.ref x)] []
  refine Go.aloadN d_ap_0 rfl rfl ?_
  refine Go.aloadN d_ap_1 rfl rfl ?_
  -- at pc 2: pc 2: invokespecial .invokespecial 29 stack [(.ref x), (.ref sb)]
  refine Go.callSup (I' := IN) (hI := nQ) sb [(.ref x)] [] (ct_apA l Z a0 hw n0 sb va x t kv kt cs bs _ O z S_cs hcs g_sb g_va nsv S B hl) E_sb (show Ord Z "java/lang/AbstractStringBuilder" from Ord.sel (wd_127 hw)) (wd_107 hw) (wd_108 hw) (wd_109 hw) (wd_94 hw) (wd_111 hw) (by decide) (by decide) pd_6 rfl rfl rfl (Nat.le_of_ble_eq_true rfl) (Nat.le_of_ble_eq_true rfl) (Nat.le_of_ble_eq_true rfl) (Nat.le_of_ble_eq_true rfl) d_ap_2 ?_
  rintro _ hp14 ⟨rfl, K1, S1⟩
  show GM_ap l Z n0 (fun v h => v = some (.ref sb) ∧ Keep h0 h [sb, va] ∧ Sbd Z h sb va kv (cs ++ bs)) hp14 1 32 5 #[.val (.ref sb), .val (.ref x)] [(.ref sb)]
  refine Go.pop d_ap_5 rfl ?_
  refine Go.aloadN d_ap_6 rfl rfl ?_
  -- at pc 7: pc 7: areturn .areturn stack [(.ref sb)]
  exact Go.areturn d_ap_7 rfl rfl rfl (by decide) (by decide) ⟨rfl, K1, S1⟩
theorem d_getv_0 : decode jdk_68_method_64_code 0 = .ok (.aload_n 0, 1) := by decide +kernel
theorem d_getv_1 : decode jdk_68_method_64_code 1 = .ok (.getfield 15, 3) := by decide +kernel
theorem d_getv_4 : decode jdk_68_method_64_code 4 = .ok (.areturn, 1) := by decide +kernel
abbrev R_getv : Room := ({ frames := 0, cells := 0, slots := 0, locals := 0 } : Room)
abbrev GM_getv (l : Launch) (Z : State) (n0 : Nat) (Q : Option Value → Heap → Prop) (h : Heap) (cells slots pc : Nat) (Ls : Array Slot) (st : List Value) : Prop := Go l Z n0 R_getv "java/lang/AbstractStringBuilder" "getValue" jdk_68_method_64_code 1 (some (.array .byte)) IN (FN n0 R_getv Q) h cells slots pc Ls st
abbrev GW_getv (l : Launch) (Z : State) (EL : List (String × Nat)) (s₀ : State) (n0 : Nat) (Q : Option Value → Heap → Prop) (lo : Nat) (Sf : List Addr) (h : Heap) (cells slots pc : Nat) (Ls : Array Slot) (st : List Value) : Prop := Go l Z n0 R_getv "java/lang/AbstractStringBuilder" "getValue" jdk_68_method_64_code 1 (some (.array .byte)) (IW Z EL s₀ lo Sf) (FW Z EL s₀ n0 R_getv Q) h cells slots pc Ls st
theorem pf_getv : plainFor (⟨"java/lang/AbstractStringBuilder", "getValue", "()[B"⟩ : MethodName) = true := plainFor_of_name (by first | (simp [plainName, overriddenIn]; done) | decide +kernel)
theorem ct_getv (l : Launch) (Z : State) (a0 : Array Value) (hw : ∀ d ∈ tables_1, d.before a0 Z = true) (n0 : Nat) (sb va : Addr) (h0 : Heap) (F_sb_value : Fld Z h0 sb "java/lang/AbstractStringBuilder" "value" "[B" (.ref va)) : Ct l Z n0 "java/lang/AbstractStringBuilder" "getValue" "()[B" [] jdk_68_method_64_code 1 (some (.array .byte)) R_getv #[.ref sb] h0 (fun v h => v = some (.ref va) ∧ h0 = h) := by
  refine Ct.of_go pf_getv (Ls := #[.val (.ref sb)]) (fun m => by first | rfl | (simp [entryFrame, mkF, argsToLocals, Value.category]; done)) ?_
  show GM_getv l Z n0 (fun v h => v = some (.ref va) ∧ h0 = h) h0 0 0 0 #[.val (.ref sb)] []
  refine Go.aloadN d_getv_0 rfl rfl ?_
  refine Go.getF (wd_98 hw) Via.refl F_sb_value d_getv_1 ?_
  -- at pc 4: pc 4: areturn .areturn stack [(.ref va)]
  exact Go.areturn d_getv_4 rfl rfl rfl (by decide) (by decide) ⟨rfl, rfl⟩
theorem d_lenA_0 : decode jdk_68_method_6_code 0 = .ok (.aload_n 0, 1) := by decide +kernel
theorem d_lenA_1 : decode jdk_68_method_6_code 1 = .ok (.getfield 79, 3) := by decide +kernel
theorem d_lenA_4 : decode jdk_68_method_6_code 4 = .ok (.ireturn, 1) := by decide +kernel
abbrev R_lenA : Room := ({ frames := 0, cells := 0, slots := 0, locals := 0 } : Room)
abbrev GM_lenA (l : Launch) (Z : State) (n0 : Nat) (Q : Option Value → Heap → Prop) (h : Heap) (cells slots pc : Nat) (Ls : Array Slot) (st : List Value) : Prop := Go l Z n0 R_lenA "java/lang/AbstractStringBuilder" "length" jdk_68_method_6_code 1 (some .int) IN (FN n0 R_lenA Q) h cells slots pc Ls st
abbrev GW_lenA (l : Launch) (Z : State) (EL : List (String × Nat)) (s₀ : State) (n0 : Nat) (Q : Option Value → Heap → Prop) (lo : Nat) (Sf : List Addr) (h : Heap) (cells slots pc : Nat) (Ls : Array Slot) (st : List Value) : Prop := Go l Z n0 R_lenA "java/lang/AbstractStringBuilder" "length" jdk_68_method_6_code 1 (some .int) (IW Z EL s₀ lo Sf) (FW Z EL s₀ n0 R_lenA Q) h cells slots pc Ls st
theorem pf_lenA : plainFor (⟨"java/lang/AbstractStringBuilder", "length", "()I"⟩ : MethodName) = true := plainFor_of_name (by first | (simp [plainName, overriddenIn]; done) | decide +kernel)
theorem ct_lenA (l : Launch) (Z : State) (a0 : Array Value) (hw : ∀ d ∈ tables_1, d.before a0 Z = true) (n0 : Nat) (sb : Addr) (n : Int32) (h0 : Heap) (F_sb_count : Fld Z h0 sb "java/lang/AbstractStringBuilder" "count" "I" (.int n)) : Ct l Z n0 "java/lang/AbstractStringBuilder" "length" "()I" [] jdk_68_method_6_code 1 (some .int) R_lenA #[.ref sb] h0 (fun v h => v = some (.int n) ∧ h0 = h) := by
  refine Ct.of_go pf_lenA (Ls := #[.val (.ref sb)]) (fun m => by first | rfl | (simp [entryFrame, mkF, argsToLocals, Value.category]; done)) ?_
  show GM_lenA l Z n0 (fun v h => v = some (.int n) ∧ h0 = h) h0 0 0 0 #[.val (.ref sb)] []
  refine Go.aloadN d_lenA_0 rfl rfl ?_
  refine Go.getF (wd_122 hw) Via.refl F_sb_count d_lenA_1 ?_
  -- at pc 4: pc 4: ireturn .ireturn stack [(.int n)]
  exact Go.ireturn d_lenA_4 rfl (by decide) (by decide) ⟨rfl, rfl⟩
theorem d_lenB_0 : decode jdk_67_method_93_code 0 = .ok (.aload_n 0, 1) := by decide +kernel
theorem d_lenB_1 : decode jdk_67_method_93_code 1 = .ok (.invokespecial 343, 3) := by decide +kernel
theorem d_lenB_4 : decode jdk_67_method_93_code 4 = .ok (.ireturn, 1) := by decide +kernel
abbrev R_lenB : Room := ({ frames := 1, cells := 0, slots := 0, locals := 12 } : Room)
abbrev GM_lenB (l : Launch) (Z : State) (n0 : Nat) (Q : Option Value → Heap → Prop) (h : Heap) (cells slots pc : Nat) (Ls : Array Slot) (st : List Value) : Prop := Go l Z n0 R_lenB "java/lang/StringBuilder" "length" jdk_67_method_93_code 1 (some .int) IN (FN n0 R_lenB Q) h cells slots pc Ls st
abbrev GW_lenB (l : Launch) (Z : State) (EL : List (String × Nat)) (s₀ : State) (n0 : Nat) (Q : Option Value → Heap → Prop) (lo : Nat) (Sf : List Addr) (h : Heap) (cells slots pc : Nat) (Ls : Array Slot) (st : List Value) : Prop := Go l Z n0 R_lenB "java/lang/StringBuilder" "length" jdk_67_method_93_code 1 (some .int) (IW Z EL s₀ lo Sf) (FW Z EL s₀ n0 R_lenB Q) h cells slots pc Ls st
theorem pf_lenB : plainFor (⟨"java/lang/StringBuilder", "length", "()I"⟩ : MethodName) = true := plainFor_of_name (by first | (simp [plainName, overriddenIn]; done) | decide +kernel)
theorem ct_lenB (l : Launch) (Z : State) (a0 : Array Value) (hw : ∀ d ∈ tables_1, d.before a0 Z = true) (n0 : Nat) (sb : Addr) (n : Int32) (h0 : Heap) (E_sb : Exa Z h0 sb "java/lang/StringBuilder") (F_sb_count : Fld Z h0 sb "java/lang/AbstractStringBuilder" "count" "I" (.int n)) : Ct l Z n0 "java/lang/StringBuilder" "length" "()I" [] jdk_67_method_93_code 1 (some .int) R_lenB #[.ref sb] h0 (fun v h => v = some (.int n) ∧ h0 = h) := by
  refine Ct.of_go pf_lenB (Ls := #[.val (.ref sb)]) (fun m => by first | rfl | (simp [entryFrame, mkF, argsToLocals, Value.category]; done)) ?_
  show GM_lenB l Z n0 (fun v h => v = some (.int n) ∧ h0 = h) h0 0 0 0 #[.val (.ref sb)] []
  refine Go.aloadN d_lenB_0 rfl rfl ?_
  -- at pc 1: pc 1: invokespecial .invokespecial 343 stack [(.ref sb)]
  refine Go.callSup (I' := IN) (hI := nQ) sb [] [] (ct_lenA l Z a0 hw n0 sb n _ F_sb_count) E_sb (show Ord Z "java/lang/AbstractStringBuilder" from Ord.sel (wd_127 hw)) (wd_198 hw) (wd_194 hw) (wd_109 hw) (wd_94 hw) (wd_199 hw) (by decide) (by decide) pd_4 rfl rfl rfl (Nat.le_of_ble_eq_true rfl) (Nat.le_of_ble_eq_true rfl) (Nat.le_of_ble_eq_true rfl) (Nat.le_of_ble_eq_true rfl) d_lenB_1 ?_
  rintro _ _ ⟨rfl, rfl⟩
  show GM_lenB l Z n0 (fun v h => v = some (.int n) ∧ h0 = h) h0 0 0 4 #[.val (.ref sb)] [(.int n)]
  -- at pc 4: pc 4: ireturn .ireturn stack [(.int n)]
  exact Go.ireturn d_lenB_4 rfl (by decide) (by decide) ⟨rfl, rfl⟩
theorem d_isL_0 : decode jdk_68_method_68_code 0 = .ok (.getstatic 18, 3) := by decide +kernel
theorem d_isL_3 : decode jdk_68_method_68_code 3 = .ok (.ifCond .eq 14, 3) := by decide +kernel
theorem d_isL_6 : decode jdk_68_method_68_code 6 = .ok (.aload_n 0, 1) := by decide +kernel
theorem d_isL_7 : decode jdk_68_method_68_code 7 = .ok (.getfield 22, 3) := by decide +kernel
theorem d_isL_10 : decode jdk_68_method_68_code 10 = .ok (.ifCond .ne 7, 3) := by decide +kernel
theorem d_isL_13 : decode jdk_68_method_68_code 13 = .ok (.iconst 1, 1) := by decide +kernel
theorem d_isL_14 : decode jdk_68_method_68_code 14 = .ok (.goto 4, 3) := by decide +kernel
theorem d_isL_17 : decode jdk_68_method_68_code 17 = .ok (.iconst 0, 1) := by decide +kernel
theorem d_isL_18 : decode jdk_68_method_68_code 18 = .ok (.ireturn, 1) := by decide +kernel
abbrev R_isL : Room := ({ frames := 0, cells := 0, slots := 0, locals := 0 } : Room)
abbrev GM_isL (l : Launch) (Z : State) (n0 : Nat) (Q : Option Value → Heap → Prop) (h : Heap) (cells slots pc : Nat) (Ls : Array Slot) (st : List Value) : Prop := Go l Z n0 R_isL "java/lang/AbstractStringBuilder" "isLatin1" jdk_68_method_68_code 1 (some .boolean) IN (FN n0 R_isL Q) h cells slots pc Ls st
abbrev GW_isL (l : Launch) (Z : State) (EL : List (String × Nat)) (s₀ : State) (n0 : Nat) (Q : Option Value → Heap → Prop) (lo : Nat) (Sf : List Addr) (h : Heap) (cells slots pc : Nat) (Ls : Array Slot) (st : List Value) : Prop := Go l Z n0 R_isL "java/lang/AbstractStringBuilder" "isLatin1" jdk_68_method_68_code 1 (some .boolean) (IW Z EL s₀ lo Sf) (FW Z EL s₀ n0 R_isL Q) h cells slots pc Ls st
theorem pf_isL : plainFor (⟨"java/lang/AbstractStringBuilder", "isLatin1", "()Z"⟩ : MethodName) = true := plainFor_of_name (by first | (simp [plainName, overriddenIn]; done) | decide +kernel)
theorem ct_isL (l : Launch) (Z : State) (a0 : Array Value) (hw : ∀ d ∈ tables_1, d.before a0 Z = true) (n0 : Nat) (sb : Addr) (h0 : Heap) (O : Old Z n0 h0) (z : Int32) (S_cs : Sta Z Z.heap "java/lang/String" "COMPACT_STRINGS" "Z" (.int z)) (hcs : ¬ z = 0) (F_sb_coder : Fld Z h0 sb "java/lang/AbstractStringBuilder" "coder" "B" (.int (0 : Int32))) : Ct l Z n0 "java/lang/AbstractStringBuilder" "isLatin1" "()Z" [] jdk_68_method_68_code 1 (some .boolean) R_isL #[.ref sb] h0 (fun v h => v = some (.int (1 : Int32)) ∧ h0 = h) := by
  refine Ct.of_go pf_isL (Ls := #[.val (.ref sb)]) (fun m => by first | rfl | (simp [entryFrame, mkF, argsToLocals, Value.category]; done)) ?_
  show GM_isL l Z n0 (fun v h => v = some (.int (1 : Int32)) ∧ h0 = h) h0 0 0 0 #[.val (.ref sb)] []
  refine Go.getS (wd_97 hw) Via.refl (S_cs.ext O.2) d_isL_0 ?_
  -- at pc 3: pc 3: ifCond .ifCond .eq 14 stack [(.int z)]
  -- not: z = (0 : Int32)
  refine Go.ifF d_isL_3 (feq (hcs)).1 ?_
  refine Go.aloadN d_isL_6 rfl rfl ?_
  refine Go.getF (wd_100 hw) Via.refl F_sb_coder d_isL_7 ?_
  -- at pc 10: pc 10: ifCond .ifCond .ne 7 stack [(.int (0 : Int32))]
  -- (0 : Int32) = (0 : Int32)
  refine Go.ifF d_isL_10 (teq (rfl)).2 ?_
  refine Go.iconst 1 d_isL_13 rfl ?_
  refine Go.goto 18 d_isL_14 (by decide) (by decide) ?_
  -- at pc 18: pc 18: ireturn .ireturn stack [(.int (1 : Int32))]
  exact Go.nreturn .boolean d_isL_18 rfl (by simp) (by decide) (by decide) ⟨rfl, rfl⟩
theorem d_chkl_0 : decode jdk_65_method_131_code 0 = .ok (.iload_n 1, 1) := by decide +kernel
theorem d_chkl_1 : decode jdk_65_method_131_code 1 = .ok (.iload_n 0, 1) := by decide +kernel
theorem d_chkl_2 : decode jdk_65_method_131_code 2 = .ok (.if_icmp .ge 35, 3) := by decide +kernel
theorem d_chkl_37 : decode jdk_65_method_131_code 37 = .ok (.return_, 1) := by decide +kernel
abbrev R_chkl : Room := ({ frames := 0, cells := 0, slots := 0, locals := 0 } : Room)
abbrev GM_chkl (l : Launch) (Z : State) (n0 : Nat) (Q : Option Value → Heap → Prop) (h : Heap) (cells slots pc : Nat) (Ls : Array Slot) (st : List Value) : Prop := Go l Z n0 R_chkl "java/util/Arrays" "checkLength" jdk_65_method_131_code 2 none IN (FN n0 R_chkl Q) h cells slots pc Ls st
abbrev GW_chkl (l : Launch) (Z : State) (EL : List (String × Nat)) (s₀ : State) (n0 : Nat) (Q : Option Value → Heap → Prop) (lo : Nat) (Sf : List Addr) (h : Heap) (cells slots pc : Nat) (Ls : Array Slot) (st : List Value) : Prop := Go l Z n0 R_chkl "java/util/Arrays" "checkLength" jdk_65_method_131_code 2 none (IW Z EL s₀ lo Sf) (FW Z EL s₀ n0 R_chkl Q) h cells slots pc Ls st
theorem pf_chkl : plainFor (⟨"java/util/Arrays", "checkLength", "(II)V"⟩ : MethodName) = true := plainFor_of_name (by first | (simp [plainName, overriddenIn]; done) | decide +kernel)
theorem ct_chkl (l : Launch) (Z : State) (a0 : Array Value) (hw : ∀ d ∈ tables_1, d.before a0 Z = true) (n0 : Nat) (a b : Int32) (h0 : Heap) (hab : ¬ b < a) : Ct l Z n0 "java/util/Arrays" "checkLength" "(II)V" [] jdk_65_method_131_code 2 none R_chkl #[.int a, .int b] h0 (fun v h => v = none ∧ h0 = h) := by
  refine Ct.of_go pf_chkl (Ls := #[.val (.int a), .val (.int b)]) (fun m => by first | rfl | (simp [entryFrame, mkF, argsToLocals, Value.category]; done)) ?_
  show GM_chkl l Z n0 (fun v h => v = none ∧ h0 = h) h0 0 0 0 #[.val (.int a), .val (.int b)] []
  refine Go.iloadN d_chkl_0 rfl ?_
  refine Go.iloadN d_chkl_1 rfl ?_
  -- at pc 2: pc 2: if_icmp .if_icmp .ge 35 stack [(.int a), (.int b)]
  -- not: b < a
  refine Go.icT 37 d_chkl_2 (flt (hab)).2.1 (by decide) (by decide) ?_
  -- at pc 37: pc 37: return .return_ stack []
  exact Go.return_ d_chkl_37 rfl (by decide) (by decide) ⟨rfl, rfl⟩
theorem d_mmin_0 : decode jdk_29_method_69_code 0 = .ok (.iload_n 0, 1) := by decide +kernel
theorem d_mmin_1 : decode jdk_29_method_69_code 1 = .ok (.iload_n 1, 1) := by decide +kernel
theorem d_mmin_2 : decode jdk_29_method_69_code 2 = .ok (.if_icmp .gt 7, 3) := by decide +kernel
theorem d_mmin_5 : decode jdk_29_method_69_code 5 = .ok (.iload_n 0, 1) := by decide +kernel
theorem d_mmin_6 : decode jdk_29_method_69_code 6 = .ok (.goto 4, 3) := by decide +kernel
theorem d_mmin_9 : decode jdk_29_method_69_code 9 = .ok (.iload_n 1, 1) := by decide +kernel
theorem d_mmin_10 : decode jdk_29_method_69_code 10 = .ok (.ireturn, 1) := by decide +kernel
abbrev R_mmin : Room := ({ frames := 0, cells := 0, slots := 0, locals := 0 } : Room)
abbrev GM_mmin (l : Launch) (Z : State) (n0 : Nat) (Q : Option Value → Heap → Prop) (h : Heap) (cells slots pc : Nat) (Ls : Array Slot) (st : List Value) : Prop := Go l Z n0 R_mmin "java/lang/Math" "min" jdk_29_method_69_code 2 (some .int) IN (FN n0 R_mmin Q) h cells slots pc Ls st
abbrev GW_mmin (l : Launch) (Z : State) (EL : List (String × Nat)) (s₀ : State) (n0 : Nat) (Q : Option Value → Heap → Prop) (lo : Nat) (Sf : List Addr) (h : Heap) (cells slots pc : Nat) (Ls : Array Slot) (st : List Value) : Prop := Go l Z n0 R_mmin "java/lang/Math" "min" jdk_29_method_69_code 2 (some .int) (IW Z EL s₀ lo Sf) (FW Z EL s₀ n0 R_mmin Q) h cells slots pc Ls st
theorem pf_mmin : plainFor (⟨"java/lang/Math", "min", "(II)I"⟩ : MethodName) = true := Jvm.Free.JP.mathPlain rfl (by decide +kernel)
theorem ct_mmin (l : Launch) (Z : State) (a0 : Array Value) (hw : ∀ d ∈ tables_1, d.before a0 Z = true) (n0 : Nat) (a b : Int32) (h0 : Heap) (hab : ¬ a < b) : Ct l Z n0 "java/lang/Math" "min" "(II)I" [] jdk_29_method_69_code 2 (some .int) R_mmin #[.int a, .int b] h0 (fun v h => v = some (.int b) ∧ h0 = h) := by
  refine Ct.of_go pf_mmin (Ls := #[.val (.int a), .val (.int b)]) (fun m => by first | rfl | (simp [entryFrame, mkF, argsToLocals, Value.category]; done)) ?_
  show GM_mmin l Z n0 (fun v h => v = some (.int b) ∧ h0 = h) h0 0 0 0 #[.val (.int a), .val (.int b)] []
  refine Go.iloadN d_mmin_0 rfl ?_
  refine Go.iloadN d_mmin_1 rfl ?_
  -- at pc 2: pc 2: if_icmp .if_icmp .gt 7 stack [(.int b), (.int a)]
  by_cases hq : b < a
  · refine Go.icT 9 d_mmin_2 (tlt hq).2.2.1 (by decide) (by decide) ?_
    refine Go.iloadN d_mmin_9 rfl ?_
    -- at pc 10: pc 10: ireturn .ireturn stack [(.int b)]
    exact Go.ireturn d_mmin_10 rfl (by decide) (by decide) ⟨rfl, rfl⟩
  · refine Go.icF d_mmin_2 (flt hq).2.2.1 ?_
    refine Go.iloadN d_mmin_5 rfl ?_
    refine Go.goto 10 d_mmin_6 (by decide) (by decide) ?_
    -- at pc 10: pc 10: ireturn .ireturn stack [(.int a)]
    have e : a = b := Int32.toInt_inj.mp (by rw [Int32.lt_iff_toInt_lt] at hab hq; omega)
    exact Go.ireturn d_mmin_10 rfl (by decide) (by decide) ⟨by rw [e], rfl⟩
theorem d_corB_0 : decode jdk_65_method_133_code 0 = .ok (.iload_n 1, 1) := by decide +kernel
theorem d_corB_1 : decode jdk_65_method_133_code 1 = .ok (.iload_n 2, 1) := by decide +kernel
theorem d_corB_2 : decode jdk_65_method_133_code 2 = .ok (.invokestatic 343, 3) := by decide +kernel
theorem d_corB_5 : decode jdk_65_method_133_code 5 = .ok (.iload_n 2, 1) := by decide +kernel
theorem d_corB_6 : decode jdk_65_method_133_code 6 = .ok (.iload_n 1, 1) := by decide +kernel
theorem d_corB_7 : decode jdk_65_method_133_code 7 = .ok (.isub, 1) := by decide +kernel
theorem d_corB_8 : decode jdk_65_method_133_code 8 = .ok (.istore_n 3, 1) := by decide +kernel
theorem d_corB_9 : decode jdk_65_method_133_code 9 = .ok (.iload_n 3, 1) := by decide +kernel
theorem d_corB_10 : decode jdk_65_method_133_code 10 = .ok (.newarray .byte, 2) := by decide +kernel
theorem d_corB_12 : decode jdk_65_method_133_code 12 = .ok (.astore 4, 2) := by decide +kernel
theorem d_corB_14 : decode jdk_65_method_133_code 14 = .ok (.aload_n 0, 1) := by decide +kernel
theorem d_corB_15 : decode jdk_65_method_133_code 15 = .ok (.iload_n 1, 1) := by decide +kernel
theorem d_corB_16 : decode jdk_65_method_133_code 16 = .ok (.aload 4, 2) := by decide +kernel
theorem d_corB_18 : decode jdk_65_method_133_code 18 = .ok (.iconst 0, 1) := by decide +kernel
theorem d_corB_19 : decode jdk_65_method_133_code 19 = .ok (.aload_n 0, 1) := by decide +kernel
theorem d_corB_20 : decode jdk_65_method_133_code 20 = .ok (.arraylength, 1) := by decide +kernel
theorem d_corB_21 : decode jdk_65_method_133_code 21 = .ok (.iload_n 1, 1) := by decide +kernel
theorem d_corB_22 : decode jdk_65_method_133_code 22 = .ok (.isub, 1) := by decide +kernel
theorem d_corB_23 : decode jdk_65_method_133_code 23 = .ok (.iload_n 3, 1) := by decide +kernel
theorem d_corB_24 : decode jdk_65_method_133_code 24 = .ok (.invokestatic 304, 3) := by decide +kernel
theorem d_corB_27 : decode jdk_65_method_133_code 27 = .ok (.invokestatic 150, 3) := by decide +kernel
theorem d_corB_30 : decode jdk_65_method_133_code 30 = .ok (.aload 4, 2) := by decide +kernel
theorem d_corB_32 : decode jdk_65_method_133_code 32 = .ok (.areturn, 1) := by decide +kernel
abbrev R_corB : Room := ({ frames := 1, cells := 1, slots := 32, locals := 34 } : Room)
abbrev GM_corB (l : Launch) (Z : State) (n0 : Nat) (Q : Option Value → Heap → Prop) (h : Heap) (cells slots pc : Nat) (Ls : Array Slot) (st : List Value) : Prop := Go l Z n0 R_corB "java/util/Arrays" "copyOfRangeByte" jdk_65_method_133_code 5 (some (.array .byte)) IN (FN n0 R_corB Q) h cells slots pc Ls st
abbrev GW_corB (l : Launch) (Z : State) (EL : List (String × Nat)) (s₀ : State) (n0 : Nat) (Q : Option Value → Heap → Prop) (lo : Nat) (Sf : List Addr) (h : Heap) (cells slots pc : Nat) (Ls : Array Slot) (st : List Value) : Prop := Go l Z n0 R_corB "java/util/Arrays" "copyOfRangeByte" jdk_65_method_133_code 5 (some (.array .byte)) (IW Z EL s₀ lo Sf) (FW Z EL s₀ n0 R_corB Q) h cells slots pc Ls st
theorem pf_corB : plainFor (⟨"java/util/Arrays", "copyOfRangeByte", "([BII)[B"⟩ : MethodName) = true := plainFor_of_name (by first | (simp [plainName, overriddenIn]; done) | decide +kernel)
theorem ct_corB (l : Launch) (Z : State) (a0 : Array Value) (hw : ∀ d ∈ tables_1, d.before a0 Z = true) (n0 : Nat) (va : Addr) (kv : ClassId) (cs : List Int32) (h0 : Heap) (hz : n0 ≤ h0.size) (V_va : Arv Z h0 va kv .byte (16 : Int32) (cs.map Value.int) (.int (0 : Int32))) (hl : cs.length ≤ 15) :
    Ct l Z n0 "java/util/Arrays" "copyOfRangeByte" "([BII)[B" [] jdk_65_method_133_code 5 (some (.array .byte)) R_corB #[.ref va, .int (0 : Int32), .int (Int32.ofNat cs.length)] h0 (fun v h => ∃ (b : Addr) (k : ClassId), v = some (.ref b) ∧ n0 ≤ b ∧ h0.size ≤ b ∧ Keep h0 h [] ∧ Arv Z h b k .byte (Int32.ofNat cs.length) (cs.map Value.int) (.int (0 : Int32))) := by
  have hn : ((Int32.ofNat cs.length) - (0 : Int32)) = (Int32.ofNat cs.length) := Int32.sub_zero _
  refine Ct.of_go pf_corB (Ls := #[.val (.ref va), .val (.int (0 : Int32)), .val (.int (Int32.ofNat cs.length)), .unset, .unset]) (fun m => by first | rfl | (simp [entryFrame, mkF, argsToLocals, Value.category]; done)) ?_
  show GM_corB l Z n0 (fun v h => ∃ (b : Addr) (k : ClassId), v = some (.ref b) ∧ n0 ≤ b ∧ h0.size ≤ b ∧ Keep h0 h [] ∧ Arv Z h b k .byte (Int32.ofNat cs.length) (cs.map Value.int) (.int (0 : Int32))) h0 0 0 0 #[.val (.ref va), .val (.int (0 : Int32)), .val (.int (Int32.ofNat cs.length)), .unset, .unset] []
  have KK : Keep h0 h0 [] := Keep.refl _ _
  refine Go.iloadN d_corB_0 rfl ?_
  refine Go.iloadN d_corB_1 rfl ?_
  -- at pc 2: pc 2: invokestatic .invokestatic 343 stack [(.int (Int32.ofNat cs.length)), (.int (0 : Int32))]
  refine Go.callS (I' := IN) (hI := nQ) [(.int (0 : Int32)), (.int (Int32.ofNat cs.length))] [] (ct_chkl l Z a0 hw n0 0 (Int32.ofNat cs.length) _ (own_nneg (by omega))) (wd_208 hw) (wd_209 hw) (wd_203 hw) (wd_210 hw) (by decide) pd_7 rfl rfl rfl (Nat.le_of_ble_eq_true rfl) (Nat.le_of_ble_eq_true rfl) (Nat.le_of_ble_eq_true rfl) (Nat.le_of_ble_eq_true rfl) d_corB_2 ?_
  rintro _ _ ⟨rfl, rfl⟩
  show GM_corB l Z n0 (fun v h => ∃ (b : Addr) (k : ClassId), v = some (.ref b) ∧ n0 ≤ b ∧ h0.size ≤ b ∧ Keep h0 h [] ∧ Arv Z h b k .byte (Int32.ofNat cs.length) (cs.map Value.int) (.int (0 : Int32))) h0 0 0 5 #[.val (.ref va), .val (.int (0 : Int32)), .val (.int (Int32.ofNat cs.length)), .unset, .unset] []
  refine Go.iloadN d_corB_5 rfl ?_
  refine Go.iloadN d_corB_6 rfl ?_
  refine Go.isub d_corB_7 ?_
  rw [show ((Int32.ofNat cs.length) - (0 : Int32)) = (Int32.ofNat cs.length) from hn]
  refine Go.istoreN (Ls' := #[.val (.ref va), .val (.int (0 : Int32)), .val (.int (Int32.ofNat cs.length)), .val (.int (Int32.ofNat cs.length)), .unset]) d_corB_8 rfl ?_
  refine Go.iloadN d_corB_9 rfl ?_
  refine Go.newP (I' := IN) (hI := nE) .byte (wd_20 hw) rfl d_corB_10 (own_nneg (by omega)) 16 (by rw [own_clamp (by omega)]; omega) (by decide) (by decide) (by decide) fun hp17 b k_b e_b X17 V_b => ?_
  have K17 : Keep h0 hp17 [] := (Keep.refl _ _).ext X17
  have g_b : n0 ≤ b := e_b ▸ hz
  have s_b : h0.size ≤ b := e_b ▸ KK.1
  have ne_va_b : va ≠ b := Nat.ne_of_lt (e_b ▸ V_va.lt)
  replace V_va := V_va.keep K17 nin0
  replace hz : n0 ≤ hp17.size := Nat.le_trans hz K17.1
  replace KK : Keep h0 hp17 [] := KK.trans K17 (all0)
  refine Go.astore (Ls' := #[.val (.ref va), .val (.int (0 : Int32)), .val (.int (Int32.ofNat cs.length)), .val (.int (Int32.ofNat cs.length)), .val (.ref b)]) d_corB_12 rfl rfl ?_
  refine Go.aloadN d_corB_14 rfl rfl ?_
  refine Go.iloadN d_corB_15 rfl ?_
  refine Go.aload d_corB_16 rfl rfl ?_
  refine Go.iconst 0 d_corB_18 rfl ?_
  refine Go.aloadN d_corB_19 rfl rfl ?_
  refine Go.arraylength V_va d_corB_20 ?_
  refine Go.iloadN d_corB_21 rfl ?_
  refine Go.isub d_corB_22 ?_
  refine Go.iloadN d_corB_23 rfl ?_
  -- at pc 24: pc 24: invokestatic .invokestatic 304 stack [(.int (Int32.ofNat cs.length)), (.int ((16 : Int32) - (0 : Int32))), (.int (0 : Int32)), (.ref b), (.int (0 : Int32)), (.ref va)]
  refine Go.callS (I' := IN) (hI := nQ) [(.int ((16 : Int32) - (0 : Int32))), (.int (Int32.ofNat cs.length))] [(.int (0 : Int32)), (.ref b), (.int (0 : Int32)), (.ref va)] (ct_mmin l Z a0 hw n0 ((16 : Int32) - (0 : Int32)) (Int32.ofNat cs.length) _ (own_le16 hl)) (wd_211 hw) (wd_212 hw) (wd_213 hw) (wd_214 hw) (by decide) pd_8 rfl rfl rfl (Nat.le_of_ble_eq_true rfl) (Nat.le_of_ble_eq_true rfl) (Nat.le_of_ble_eq_true rfl) (Nat.le_of_ble_eq_true rfl) d_corB_24 ?_
  rintro _ _ ⟨rfl, rfl⟩
  show GM_corB l Z n0 (fun v h => ∃ (b : Addr) (k : ClassId), v = some (.ref b) ∧ n0 ≤ b ∧ h0.size ≤ b ∧ Keep h0 h [] ∧ Arv Z h b k .byte (Int32.ofNat cs.length) (cs.map Value.int) (.int (0 : Int32))) hp17 1 16 27 #[.val (.ref va), .val (.int (0 : Int32)), .val (.int (Int32.ofNat cs.length)), .val (.int (Int32.ofNat cs.length)), .val (.ref b)] [(.int (Int32.ofNat cs.length)), (.int (0 : Int32)), (.ref b), (.int (0 : Int32)), (.ref va)]
  refine Go.copyB (I' := IN) (hI := nI) (cs.map Value.int) V_va (V_b.pad (pad_rep [] _ cs.length)) rfl (wd_215 hw) (wd_148 hw) (wd_146 hw) (wd_147 hw) (by decide) (by decide) (own_nneg (by omega)) (by rw [own_clamp (by omega)]; show 0 + cs.length ≤ 16; omega) (by rw [own_clamp (by omega)]; show 0 + cs.length ≤ cs.length; omega) (by rw [own_clamp (by omega)]; exact own_range (by simp)) (by rw [own_clamp (by omega)]; simp) g_b d_corB_27 rfl (by decide) (by decide) fun h1 K1 V1 => ?_
  rw [own_clamp (by omega)] at V1
  have V2 : Arv Z h1 b k_b .byte (Int32.ofNat cs.length) (cs.map Value.int) (.int (0 : Int32)) := by have W := V1; simp at W; exact W
  replace KK : Keep h0 h1 [] := KK.trans K1 (allS (Or.inr s_b) all0)
  show GM_corB l Z n0 (fun v h => ∃ (b : Addr) (k : ClassId), v = some (.ref b) ∧ n0 ≤ b ∧ h0.size ≤ b ∧ Keep h0 h [] ∧ Arv Z h b k .byte (Int32.ofNat cs.length) (cs.map Value.int) (.int (0 : Int32))) h1 1 16 30 #[.val (.ref va), .val (.int (0 : Int32)), .val (.int (Int32.ofNat cs.length)), .val (.int (Int32.ofNat cs.length)), .val (.ref b)] []
  refine Go.aload d_corB_30 rfl rfl ?_
  -- at pc 32: pc 32: areturn .areturn stack [(.ref b)]
  exact Go.areturn d_corB_32 rfl rfl rfl (by decide) (by decide) ⟨b, k_b, rfl, g_b, s_b, KK, V2⟩
theorem d_corA_0 : decode jdk_65_method_132_code 0 = .ok (.iload_n 1, 1) := by decide +kernel
theorem d_corA_1 : decode jdk_65_method_132_code 1 = .ok (.ifCond .ne 9, 3) := by decide +kernel
theorem d_corA_4 : decode jdk_65_method_132_code 4 = .ok (.iload_n 2, 1) := by decide +kernel
theorem d_corA_5 : decode jdk_65_method_132_code 5 = .ok (.aload_n 0, 1) := by decide +kernel
theorem d_corA_6 : decode jdk_65_method_132_code 6 = .ok (.arraylength, 1) := by decide +kernel
theorem d_corA_7 : decode jdk_65_method_132_code 7 = .ok (.if_icmp .eq 10, 3) := by decide +kernel
theorem d_corA_10 : decode jdk_65_method_132_code 10 = .ok (.aload_n 0, 1) := by decide +kernel
theorem d_corA_11 : decode jdk_65_method_132_code 11 = .ok (.iload_n 1, 1) := by decide +kernel
theorem d_corA_12 : decode jdk_65_method_132_code 12 = .ok (.iload_n 2, 1) := by decide +kernel
theorem d_corA_13 : decode jdk_65_method_132_code 13 = .ok (.invokestatic 339, 3) := by decide +kernel
theorem d_corA_16 : decode jdk_65_method_132_code 16 = .ok (.areturn, 1) := by decide +kernel
abbrev R_corA : Room := ({ frames := 2, cells := 1, slots := 32, locals := 50 } : Room)
abbrev GM_corA (l : Launch) (Z : State) (n0 : Nat) (Q : Option Value → Heap → Prop) (h : Heap) (cells slots pc : Nat) (Ls : Array Slot) (st : List Value) : Prop := Go l Z n0 R_corA "java/util/Arrays" "copyOfRange" jdk_65_method_132_code 3 (some (.array .byte)) IN (FN n0 R_corA Q) h cells slots pc Ls st
abbrev GW_corA (l : Launch) (Z : State) (EL : List (String × Nat)) (s₀ : State) (n0 : Nat) (Q : Option Value → Heap → Prop) (lo : Nat) (Sf : List Addr) (h : Heap) (cells slots pc : Nat) (Ls : Array Slot) (st : List Value) : Prop := Go l Z n0 R_corA "java/util/Arrays" "copyOfRange" jdk_65_method_132_code 3 (some (.array .byte)) (IW Z EL s₀ lo Sf) (FW Z EL s₀ n0 R_corA Q) h cells slots pc Ls st
theorem pf_corA : plainFor (⟨"java/util/Arrays", "copyOfRange", "([BII)[B"⟩ : MethodName) = true := plainFor_of_name (by first | (simp [plainName, overriddenIn]; done) | decide +kernel)
theorem ct_corA (l : Launch) (Z : State) (a0 : Array Value) (hw : ∀ d ∈ tables_1, d.before a0 Z = true) (n0 : Nat) (va : Addr) (kv : ClassId) (cs : List Int32) (h0 : Heap) (hz : n0 ≤ h0.size) (V_va : Arv Z h0 va kv .byte (16 : Int32) (cs.map Value.int) (.int (0 : Int32))) (hl : cs.length ≤ 15) :
    Ct l Z n0 "java/util/Arrays" "copyOfRange" "([BII)[B" [] jdk_65_method_132_code 3 (some (.array .byte)) R_corA #[.ref va, .int (0 : Int32), .int (Int32.ofNat cs.length)] h0 (fun v h => ∃ (b : Addr) (k : ClassId), v = some (.ref b) ∧ n0 ≤ b ∧ h0.size ≤ b ∧ Keep h0 h [] ∧ Arv Z h b k .byte (Int32.ofNat cs.length) (cs.map Value.int) (.int (0 : Int32))) := by
  refine Ct.of_go pf_corA (Ls := #[.val (.ref va), .val (.int (0 : Int32)), .val (.int (Int32.ofNat cs.length))]) (fun m => by first | rfl | (simp [entryFrame, mkF, argsToLocals, Value.category]; done)) ?_
  show GM_corA l Z n0 (fun v h => ∃ (b : Addr) (k : ClassId), v = some (.ref b) ∧ n0 ≤ b ∧ h0.size ≤ b ∧ Keep h0 h [] ∧ Arv Z h b k .byte (Int32.ofNat cs.length) (cs.map Value.int) (.int (0 : Int32))) h0 0 0 0 #[.val (.ref va), .val (.int (0 : Int32)), .val (.int (Int32.ofNat cs.length))] []
  refine Go.iloadN d_corA_0 rfl ?_
  -- at pc 1: pc 1: ifCond .ifCond .ne 9 stack [(.int (0 : Int32))]
  -- (0 : Int32) = (0 : Int32)
  refine Go.ifF d_corA_1 (teq (rfl)).2 ?_
  refine Go.iloadN d_corA_4 rfl ?_
  refine Go.aloadN d_corA_5 rfl rfl ?_
  refine Go.arraylength V_va d_corA_6 ?_
  -- at pc 7: pc 7: if_icmp .if_icmp .eq 10 stack [(.int (16 : Int32)), (.int (Int32.ofNat cs.length))]
  -- not: (Int32.ofNat cs.length) = (16 : Int32)
  refine Go.icF d_corA_7 (feq (own_ne16 hl)).1 ?_
  refine Go.aloadN d_corA_10 rfl rfl ?_
  refine Go.iloadN d_corA_11 rfl ?_
  refine Go.iloadN d_corA_12 rfl ?_
  -- at pc 13: pc 13: invokestatic .invokestatic 339 stack [(.int (Int32.ofNat cs.length)), (.int (0 : Int32)), (.ref va)]
  refine Go.callS (I' := IN) (hI := nQ) [(.ref va), (.int (0 : Int32)), (.int (Int32.ofNat cs.length))] [] (ct_corB l Z a0 hw n0 va kv cs _ hz V_va hl) (wd_205 hw) (wd_206 hw) (wd_203 hw) (wd_207 hw) (by decide) pd_9 rfl rfl rfl (Nat.le_of_ble_eq_true rfl) (Nat.le_of_ble_eq_true rfl) (Nat.le_of_ble_eq_true rfl) (Nat.le_of_ble_eq_true rfl) d_corA_13 ?_
  rintro _ hp19 ⟨b, k, rfl, q1, q2, q3, q4⟩
  show GM_corA l Z n0 (fun v h => ∃ (b : Addr) (k : ClassId), v = some (.ref b) ∧ n0 ≤ b ∧ h0.size ≤ b ∧ Keep h0 h [] ∧ Arv Z h b k .byte (Int32.ofNat cs.length) (cs.map Value.int) (.int (0 : Int32))) hp19 1 32 16 #[.val (.ref va), .val (.int (0 : Int32)), .val (.int (Int32.ofNat cs.length))] [(.ref b)]
  -- at pc 16: pc 16: areturn .areturn stack [(.ref b)]
  exact Go.areturn d_corA_16 rfl rfl rfl (by decide) (by decide) ⟨b, k, rfl, q1, q2, q3, q4⟩
theorem d_sinA_0 : decode jdk_42_method_150_code 0 = .ok (.aload_n 0, 1) := by decide +kernel
theorem d_sinA_1 : decode jdk_42_method_150_code 1 = .ok (.invokespecial 1, 3) := by decide +kernel
theorem d_sinA_4 : decode jdk_42_method_150_code 4 = .ok (.aload_n 1, 1) := by decide +kernel
theorem d_sinA_5 : decode jdk_42_method_150_code 5 = .ok (.invokevirtual 552, 3) := by decide +kernel
theorem d_sinA_8 : decode jdk_42_method_150_code 8 = .ok (.astore_n 3, 1) := by decide +kernel
theorem d_sinA_9 : decode jdk_42_method_150_code 9 = .ok (.aload_n 1, 1) := by decide +kernel
theorem d_sinA_10 : decode jdk_42_method_150_code 10 = .ok (.invokevirtual 549, 3) := by decide +kernel
theorem d_sinA_13 : decode jdk_42_method_150_code 13 = .ok (.istore 4, 2) := by decide +kernel
theorem d_sinA_15 : decode jdk_42_method_150_code 15 = .ok (.aload_n 1, 1) := by decide +kernel
theorem d_sinA_16 : decode jdk_42_method_150_code 16 = .ok (.invokevirtual 1047, 3) := by decide +kernel
theorem d_sinA_19 : decode jdk_42_method_150_code 19 = .ok (.ifCond .eq 22, 3) := by decide +kernel
theorem d_sinA_22 : decode jdk_42_method_150_code 22 = .ok (.aload_n 0, 1) := by decide +kernel
theorem d_sinA_23 : decode jdk_42_method_150_code 23 = .ok (.iconst 0, 1) := by decide +kernel
theorem d_sinA_24 : decode jdk_42_method_150_code 24 = .ok (.putfield 15, 3) := by decide +kernel
theorem d_sinA_27 : decode jdk_42_method_150_code 27 = .ok (.aload_n 0, 1) := by decide +kernel
theorem d_sinA_28 : decode jdk_42_method_150_code 28 = .ok (.aload_n 3, 1) := by decide +kernel
theorem d_sinA_29 : decode jdk_42_method_150_code 29 = .ok (.iconst 0, 1) := by decide +kernel
theorem d_sinA_30 : decode jdk_42_method_150_code 30 = .ok (.iload 4, 2) := by decide +kernel
theorem d_sinA_32 : decode jdk_42_method_150_code 32 = .ok (.invokestatic 54, 3) := by decide +kernel
theorem d_sinA_35 : decode jdk_42_method_150_code 35 = .ok (.putfield 9, 3) := by decide +kernel
theorem d_sinA_38 : decode jdk_42_method_150_code 38 = .ok (.goto 59, 3) := by decide +kernel
theorem d_sinA_41 : decode jdk_42_method_150_code 41 = .ok (.getstatic 38, 3) := by decide +kernel
theorem d_sinA_44 : decode jdk_42_method_150_code 44 = .ok (.ifCond .eq 35, 3) := by decide +kernel
theorem d_sinA_47 : decode jdk_42_method_150_code 47 = .ok (.aload_n 1, 1) := by decide +kernel
theorem d_sinA_48 : decode jdk_42_method_150_code 48 = .ok (.getfield 1048, 3) := by decide +kernel
theorem d_sinA_51 : decode jdk_42_method_150_code 51 = .ok (.ifCond .eq 28, 3) := by decide +kernel
theorem d_sinA_79 : decode jdk_42_method_150_code 79 = .ok (.aload_n 0, 1) := by decide +kernel
theorem d_sinA_80 : decode jdk_42_method_150_code 80 = .ok (.iconst 1, 1) := by decide +kernel
theorem d_sinA_81 : decode jdk_42_method_150_code 81 = .ok (.putfield 15, 3) := by decide +kernel
theorem d_sinA_84 : decode jdk_42_method_150_code 84 = .ok (.aload_n 0, 1) := by decide +kernel
theorem d_sinA_85 : decode jdk_42_method_150_code 85 = .ok (.aload_n 3, 1) := by decide +kernel
theorem d_sinA_86 : decode jdk_42_method_150_code 86 = .ok (.iconst 0, 1) := by decide +kernel
theorem d_sinA_87 : decode jdk_42_method_150_code 87 = .ok (.iload 4, 2) := by decide +kernel
theorem d_sinA_89 : decode jdk_42_method_150_code 89 = .ok (.iconst 1, 1) := by decide +kernel
theorem d_sinA_90 : decode jdk_42_method_150_code 90 = .ok (.ishl, 1) := by decide +kernel
theorem d_sinA_91 : decode jdk_42_method_150_code 91 = .ok (.invokestatic 54, 3) := by decide +kernel
theorem d_sinA_94 : decode jdk_42_method_150_code 94 = .ok (.putfield 9, 3) := by decide +kernel
theorem d_sinA_97 : decode jdk_42_method_150_code 97 = .ok (.return_, 1) := by decide +kernel
abbrev R_sinA : Room := ({ frames := 3, cells := 1, slots := 32, locals := 65 } : Room)
abbrev GM_sinA (l : Launch) (Z : State) (n0 : Nat) (Q : Option Value → Heap → Prop) (h : Heap) (cells slots pc : Nat) (Ls : Array Slot) (st : List Value) : Prop := Go l Z n0 R_sinA "java/lang/String" "<init>" jdk_42_method_150_code 5 none IN (FN n0 R_sinA Q) h cells slots pc Ls st
abbrev GW_sinA (l : Launch) (Z : State) (EL : List (String × Nat)) (s₀ : State) (n0 : Nat) (Q : Option Value → Heap → Prop) (lo : Nat) (Sf : List Addr) (h : Heap) (cells slots pc : Nat) (Ls : Array Slot) (st : List Value) : Prop := Go l Z n0 R_sinA "java/lang/String" "<init>" jdk_42_method_150_code 5 none (IW Z EL s₀ lo Sf) (FW Z EL s₀ n0 R_sinA Q) h cells slots pc Ls st
theorem pf_sinA : plainFor (⟨"java/lang/String", "<init>", "(Ljava/lang/AbstractStringBuilder;Ljava/lang/Void;)V"⟩ : MethodName) = true := plainFor_of_name (by first | (simp [plainName, overriddenIn]; done) | decide +kernel)
theorem ct_sinA (l : Launch) (Z : State) (a0 : Array Value) (hw : ∀ d ∈ tables_1, d.before a0 Z = true) (n0 : Nat) (x sb va : Addr) (kv : ClassId) (cs : List Int32) (h0 : Heap) (hz : n0 ≤ h0.size) (O : Old Z n0 h0) (z : Int32) (S_cs : Sta Z Z.heap "java/lang/String" "COMPACT_STRINGS" "Z" (.int z)) (hcs : ¬ z = 0) (g_x : n0 ≤ x) (E_x : Exa Z h0 x "java/lang/String") (F_x_value : Fld Z h0 x "java/lang/String" "value" "[B" .null) (F_x_coder : Fld Z h0 x "java/lang/String" "coder" "B" (.int (0 : Int32))) (S : Sbd Z h0 sb va kv cs) (nxs : x ≠ sb) (nxv : x ≠ va) (hl : cs.length ≤ 15) :
    Ct l Z n0 "java/lang/String" "<init>" "(Ljava/lang/AbstractStringBuilder;Ljava/lang/Void;)V" [] jdk_42_method_150_code 5 none R_sinA #[.ref x, .ref sb, .null] h0 (fun v h => v = none ∧ Keep h0 h [x] ∧ ∃ (t : Addr) (kt : ClassId), n0 ≤ t ∧ h0.size ≤ t ∧ Byt Z h x t kt cs) := by
  obtain ⟨E_sb, F_sb_value, F_sb_coder, F_sb_count, V_va, F_sb_maybeLatin1⟩ := S
  refine Ct.of_go pf_sinA (Ls := #[.val (.ref x), .val (.ref sb), .val .null, .unset, .unset]) (fun m => by first | rfl | (simp [entryFrame, mkF, argsToLocals, Value.category]; done)) ?_
  show GM_sinA l Z n0 (fun v h => v = none ∧ Keep h0 h [x] ∧ ∃ (t : Addr) (kt : ClassId), n0 ≤ t ∧ h0.size ≤ t ∧ Byt Z h x t kt cs) h0 0 0 0 #[.val (.ref x), .val (.ref sb), .val .null, .unset, .unset] []
  have KK : Keep h0 h0 [x] := Keep.refl _ _
  refine Go.aloadN d_sinA_0 rfl rfl ?_
  refine Go.initO (wd_12 hw) (wd_13 hw) (wd_14 hw) d_sinA_1 rfl (by decide) (Nat.le_of_ble_eq_true rfl) ?_
  refine Go.aloadN d_sinA_4 rfl rfl ?_
  -- at pc 5: pc 5: invokevirtual .invokevirtual 552 stack [(.ref sb)]
  refine Go.callV (I' := IN) (hI := nQ) sb [] [] (ct_getv l Z a0 hw n0 sb va _ F_sb_value) E_sb (wd_187 hw) (wd_188 hw) (nf_sel (wd_190 hw)) (wd_190 hw) (wd_189 hw) (wd_94 hw) (wd_191 hw) (by decide) pd_10 rfl rfl rfl (Nat.le_of_ble_eq_true rfl) (Nat.le_of_ble_eq_true rfl) (Nat.le_of_ble_eq_true rfl) (Nat.le_of_ble_eq_true rfl) d_sinA_5 ?_
  rintro _ _ ⟨rfl, rfl⟩
  show GM_sinA l Z n0 (fun v h => v = none ∧ Keep h0 h [x] ∧ ∃ (t : Addr) (kt : ClassId), n0 ≤ t ∧ h0.size ≤ t ∧ Byt Z h x t kt cs) h0 0 0 8 #[.val (.ref x), .val (.ref sb), .val .null, .unset, .unset] [(.ref va)]
  refine Go.astoreN (Ls' := #[.val (.ref x), .val (.ref sb), .val .null, .val (.ref va), .unset]) d_sinA_8 rfl rfl ?_
  refine Go.aloadN d_sinA_9 rfl rfl ?_
  -- at pc 10: pc 10: invokevirtual .invokevirtual 549 stack [(.ref sb)]
  refine Go.callV (I' := IN) (hI := nQ) sb [] [] (ct_lenB l Z a0 hw n0 sb (Int32.ofNat cs.length) _ E_sb F_sb_count) E_sb (wd_192 hw) (wd_193 hw) (Ord.nf (show Ord Z "java/lang/AbstractStringBuilder" from Ord.sel (wd_127 hw))) (wd_195 hw) (wd_196 hw) (wd_86 hw) (wd_197 hw) (by decide) pd_4 rfl rfl rfl (Nat.le_of_ble_eq_true rfl) (Nat.le_of_ble_eq_true rfl) (Nat.le_of_ble_eq_true rfl) (Nat.le_of_ble_eq_true rfl) d_sinA_10 ?_
  rintro _ _ ⟨rfl, rfl⟩
  show GM_sinA l Z n0 (fun v h => v = none ∧ Keep h0 h [x] ∧ ∃ (t : Addr) (kt : ClassId), n0 ≤ t ∧ h0.size ≤ t ∧ Byt Z h x t kt cs) h0 0 0 13 #[.val (.ref x), .val (.ref sb), .val .null, .val (.ref va), .unset] [(.int (Int32.ofNat cs.length))]
  refine Go.istore (Ls' := #[.val (.ref x), .val (.ref sb), .val .null, .val (.ref va), .val (.int (Int32.ofNat cs.length))]) d_sinA_13 rfl ?_
  refine Go.aloadN d_sinA_15 rfl rfl ?_
  -- at pc 16: pc 16: invokevirtual .invokevirtual 1047 stack [(.ref sb)]
  refine Go.callV (I' := IN) (hI := nQ) sb [] [] (ct_isL l Z a0 hw n0 sb _ O z S_cs hcs F_sb_coder) E_sb (wd_200 hw) (wd_166 hw) (nf_sel (wd_168 hw)) (wd_168 hw) (wd_167 hw) (wd_94 hw) (wd_169 hw) (by decide) pd_11 rfl rfl rfl (Nat.le_of_ble_eq_true rfl) (Nat.le_of_ble_eq_true rfl) (Nat.le_of_ble_eq_true rfl) (Nat.le_of_ble_eq_true rfl) d_sinA_16 ?_
  rintro _ _ ⟨rfl, rfl⟩
  show GM_sinA l Z n0 (fun v h => v = none ∧ Keep h0 h [x] ∧ ∃ (t : Addr) (kt : ClassId), n0 ≤ t ∧ h0.size ≤ t ∧ Byt Z h x t kt cs) h0 0 0 19 #[.val (.ref x), .val (.ref sb), .val .null, .val (.ref va), .val (.int (Int32.ofNat cs.length))] [(.int (1 : Int32))]
  -- at pc 19: pc 19: ifCond .ifCond .eq 22 stack [(.int (1 : Int32))]
  -- not: (1 : Int32) = (0 : Int32)
  refine Go.ifF d_sinA_19 (feq (by decide)).1 ?_
  refine Go.aloadN d_sinA_22 rfl rfl ?_
  refine Go.iconst 0 d_sinA_23 rfl ?_
  refine Go.putFN (I' := IN) (hI := nI) (v' := (.int (0 : Int32))) (wd_27 hw) Via.refl F_x_coder E_x (Or.inr ⟨(wd_28 hw), rfl, rfl⟩) (wd_2 hw) (ty := .byte) (by decide) rfl rfl g_x d_sinA_24 fun hp23 W23 => ?_
  have K23 := Keep.of_wr W23
  replace F_x_value := F_x_value.other W23 (Or.inr (slot_ne (Or.inr (wd_30 hw)) (Or.inr (wd_28 hw)) (by decide) (t := (.array .byte)) (t' := .byte) (by decide) (by decide)))
  replace F_x_coder := F_x_coder.same W23
  replace O := O.keep K23 (allS g_x (all0))
  replace E_x := E_x.keep K23
  replace E_sb := E_sb.keep K23
  replace F_sb_count := F_sb_count.keep K23 (ninS (Ne.symm nxs) nin0)
  replace V_va := V_va.keep K23 (ninS (Ne.symm nxv) nin0)
  replace hz : n0 ≤ hp23.size := Nat.le_trans hz K23.1
  replace KK : Keep h0 hp23 [x] := KK.trans K23 (allS (Or.inl (by simp)) (all0))
  refine Go.aloadN d_sinA_27 rfl rfl ?_
  refine Go.aloadN d_sinA_28 rfl rfl ?_
  refine Go.iconst 0 d_sinA_29 rfl ?_
  refine Go.iload d_sinA_30 rfl ?_
  -- at pc 32: pc 32: invokestatic .invokestatic 54 stack [(.int (Int32.ofNat cs.length)), (.int (0 : Int32)), (.ref va), (.ref x)]
  have KK1 := KK
  have lt_x := E_x.lt
  refine Go.callS (I' := IN) (hI := nQ) [(.ref va), (.int (0 : Int32)), (.int (Int32.ofNat cs.length))] [(.ref x)] (ct_corA l Z a0 hw n0 va kv cs _ hz V_va hl) (wd_201 hw) (wd_202 hw) (wd_203 hw) (wd_204 hw) (by decide) pd_9 rfl rfl rfl (Nat.le_of_ble_eq_true rfl) (Nat.le_of_ble_eq_true rfl) (Nat.le_of_ble_eq_true rfl) (Nat.le_of_ble_eq_true rfl) d_sinA_32 ?_
  rintro _ hp24 ⟨t, kt, rfl, g_t, sz_t, K24, V_t⟩
  replace O := O.keep K24 (all0)
  replace E_x := E_x.keep K24
  replace F_x_value := F_x_value.keep K24 nin0
  replace F_x_coder := F_x_coder.keep K24 nin0
  replace E_sb := E_sb.keep K24
  replace F_sb_count := F_sb_count.keep K24 nin0
  replace V_va := V_va.keep K24 nin0
  replace hz : n0 ≤ hp24.size := Nat.le_trans hz K24.1
  replace KK : Keep h0 hp24 [x] := KK.trans K24 (all0)
  show GM_sinA l Z n0 (fun v h => v = none ∧ Keep h0 h [x] ∧ ∃ (t : Addr) (kt : ClassId), n0 ≤ t ∧ h0.size ≤ t ∧ Byt Z h x t kt cs) hp24 1 32 35 #[.val (.ref x), .val (.ref sb), .val .null, .val (.ref va), .val (.int (Int32.ofNat cs.length))] [(.ref t), (.ref x)]
  have s_t : h0.size ≤ t := Nat.le_trans KK1.1 sz_t
  have ne_x_t : x ≠ t := (Nat.ne_of_lt (Nat.lt_of_lt_of_le lt_x sz_t))
  refine Go.putF (I' := IN) (hI := nI) (wd_29 hw) Via.refl F_x_value E_x (Or.inr ⟨(wd_30 hw), rfl, rfl⟩) (wd_2 hw) (ty := (.array .byte)) (by decide) rfl rfl g_x d_sinA_35 fun hp25 W25 => ?_
  have K25 := Keep.of_wr W25
  replace F_x_value := F_x_value.same W25
  replace F_x_coder := F_x_coder.other W25 (Or.inr (slot_ne (Or.inr (wd_28 hw)) (Or.inr (wd_30 hw)) (by decide) (t := .byte) (t' := (.array .byte)) (by decide) (by decide)))
  replace O := O.keep K25 (allS g_x (all0))
  replace E_x := E_x.keep K25
  replace E_sb := E_sb.keep K25
  replace F_sb_count := F_sb_count.keep K25 (ninS (Ne.symm nxs) nin0)
  replace V_va := V_va.keep K25 (ninS (Ne.symm nxv) nin0)
  replace V_t := V_t.keep K25 (ninS (Ne.symm ne_x_t) nin0)
  replace hz : n0 ≤ hp25.size := Nat.le_trans hz K25.1
  replace KK : Keep h0 hp25 [x] := KK.trans K25 (allS (Or.inl (by simp)) (all0))
  refine Go.goto 97 d_sinA_38 (by decide) (by decide) ?_
  -- at pc 97: pc 97: return .return_ stack []
  exact Go.return_ d_sinA_97 rfl (by decide) (by decide) ⟨rfl, KK, t, kt, g_t, s_t, E_x, F_x_coder, F_x_value, V_t⟩
theorem d_sinB_0 : decode jdk_42_method_53_code 0 = .ok (.aload_n 0, 1) := by decide +kernel
theorem d_sinB_1 : decode jdk_42_method_53_code 1 = .ok (.aload_n 1, 1) := by decide +kernel
theorem d_sinB_2 : decode jdk_42_method_53_code 2 = .ok (.aconst_null, 1) := by decide +kernel
theorem d_sinB_3 : decode jdk_42_method_53_code 3 = .ok (.invokespecial 489, 3) := by decide +kernel
theorem d_sinB_6 : decode jdk_42_method_53_code 6 = .ok (.return_, 1) := by decide +kernel
abbrev R_sinB : Room := ({ frames := 4, cells := 1, slots := 32, locals := 82 } : Room)
abbrev GM_sinB (l : Launch) (Z : State) (n0 : Nat) (Q : Option Value → Heap → Prop) (h : Heap) (cells slots pc : Nat) (Ls : Array Slot) (st : List Value) : Prop := Go l Z n0 R_sinB "java/lang/String" "<init>" jdk_42_method_53_code 2 none IN (FN n0 R_sinB Q) h cells slots pc Ls st
abbrev GW_sinB (l : Launch) (Z : State) (EL : List (String × Nat)) (s₀ : State) (n0 : Nat) (Q : Option Value → Heap → Prop) (lo : Nat) (Sf : List Addr) (h : Heap) (cells slots pc : Nat) (Ls : Array Slot) (st : List Value) : Prop := Go l Z n0 R_sinB "java/lang/String" "<init>" jdk_42_method_53_code 2 none (IW Z EL s₀ lo Sf) (FW Z EL s₀ n0 R_sinB Q) h cells slots pc Ls st
theorem pf_sinB : plainFor (⟨"java/lang/String", "<init>", "(Ljava/lang/StringBuilder;)V"⟩ : MethodName) = true := plainFor_of_name (by first | (simp [plainName, overriddenIn]; done) | decide +kernel)
theorem ct_sinB (l : Launch) (Z : State) (a0 : Array Value) (hw : ∀ d ∈ tables_1, d.before a0 Z = true) (n0 : Nat) (x sb va : Addr) (kv : ClassId) (cs : List Int32) (h0 : Heap) (hz : n0 ≤ h0.size) (O : Old Z n0 h0) (z : Int32) (S_cs : Sta Z Z.heap "java/lang/String" "COMPACT_STRINGS" "Z" (.int z)) (hcs : ¬ z = 0) (g_x : n0 ≤ x) (E_x : Exa Z h0 x "java/lang/String") (F_x_value : Fld Z h0 x "java/lang/String" "value" "[B" .null) (F_x_coder : Fld Z h0 x "java/lang/String" "coder" "B" (.int (0 : Int32))) (S : Sbd Z h0 sb va kv cs) (nxs : x ≠ sb) (nxv : x ≠ va) (hl : cs.length ≤ 15) :
    Ct l Z n0 "java/lang/String" "<init>" "(Ljava/lang/StringBuilder;)V" [] jdk_42_method_53_code 2 none R_sinB #[.ref x, .ref sb] h0 (fun v h => v = none ∧ Keep h0 h [x] ∧ ∃ (t : Addr) (kt : ClassId), n0 ≤ t ∧ h0.size ≤ t ∧ Byt Z h x t kt cs) := by
  refine Ct.of_go pf_sinB (Ls := #[.val (.ref x), .val (.ref sb)]) (fun m => by first | rfl | (simp [entryFrame, mkF, argsToLocals, Value.category]; done)) ?_
  show GM_sinB l Z n0 (fun v h => v = none ∧ Keep h0 h [x] ∧ ∃ (t : Addr) (kt : ClassId), n0 ≤ t ∧ h0.size ≤ t ∧ Byt Z h x t kt cs) h0 0 0 0 #[.val (.ref x), .val (.ref sb)] []
  refine Go.aloadN d_sinB_0 rfl rfl ?_
  refine Go.aloadN d_sinB_1 rfl rfl ?_
  refine Go.null d_sinB_2 ?_
  -- at pc 3: pc 3: invokespecial .invokespecial 489 stack [.null, (.ref sb), (.ref x)]
  refine Go.callI (I' := IN) (hI := nQ) x [(.ref sb), .null] [] (ct_sinA l Z a0 hw n0 x sb va kv cs _ hz O z S_cs hcs g_x E_x F_x_value F_x_coder S nxs nxv hl) (wd_184 hw) (wd_185 hw) (wd_3 hw) (wd_186 hw) (by decide) pd_12 rfl rfl rfl (Nat.le_of_ble_eq_true rfl) (Nat.le_of_ble_eq_true rfl) (Nat.le_of_ble_eq_true rfl) (Nat.le_of_ble_eq_true rfl) d_sinB_3 ?_
  rintro _ hp26 ⟨rfl, K1, t, kt, q1, q2, q3⟩
  show GM_sinB l Z n0 (fun v h => v = none ∧ Keep h0 h [x] ∧ ∃ (t : Addr) (kt : ClassId), n0 ≤ t ∧ h0.size ≤ t ∧ Byt Z h x t kt cs) hp26 1 32 6 #[.val (.ref x), .val (.ref sb)] []
  -- at pc 6: pc 6: return .return_ stack []
  exact Go.return_ d_sinB_6 rfl (by decide) (by decide) ⟨rfl, K1, t, kt, q1, q2, q3⟩
theorem d_tos_0 : decode jdk_67_method_42_code 0 = .ok (.new 18, 3) := by decide +kernel
theorem d_tos_3 : decode jdk_67_method_42_code 3 = .ok (.dup, 1) := by decide +kernel
theorem d_tos_4 : decode jdk_67_method_42_code 4 = .ok (.aload_n 0, 1) := by decide +kernel
theorem d_tos_5 : decode jdk_67_method_42_code 5 = .ok (.invokespecial 137, 3) := by decide +kernel
theorem d_tos_8 : decode jdk_67_method_42_code 8 = .ok (.areturn, 1) := by decide +kernel
abbrev R_tos : Room := ({ frames := 5, cells := 2, slots := 36, locals := 98 } : Room)
abbrev GM_tos (l : Launch) (Z : State) (n0 : Nat) (Q : Option Value → Heap → Prop) (h : Heap) (cells slots pc : Nat) (Ls : Array Slot) (st : List Value) : Prop := Go l Z n0 R_tos "java/lang/StringBuilder" "toString" jdk_67_method_42_code 1 (some (.object "java/lang/String")) IN (FN n0 R_tos Q) h cells slots pc Ls st
abbrev GW_tos (l : Launch) (Z : State) (EL : List (String × Nat)) (s₀ : State) (n0 : Nat) (Q : Option Value → Heap → Prop) (lo : Nat) (Sf : List Addr) (h : Heap) (cells slots pc : Nat) (Ls : Array Slot) (st : List Value) : Prop := Go l Z n0 R_tos "java/lang/StringBuilder" "toString" jdk_67_method_42_code 1 (some (.object "java/lang/String")) (IW Z EL s₀ lo Sf) (FW Z EL s₀ n0 R_tos Q) h cells slots pc Ls st
theorem pf_tos : plainFor (⟨"java/lang/StringBuilder", "toString", "()Ljava/lang/String;"⟩ : MethodName) = true := plainFor_of_name (by first | (simp [plainName, overriddenIn]; done) | decide +kernel)
theorem ct_tos (l : Launch) (Z : State) (a0 : Array Value) (hw : ∀ d ∈ tables_1, d.before a0 Z = true) (n0 : Nat) (sb va : Addr) (kv : ClassId) (cs : List Int32) (h0 : Heap) (hz : n0 ≤ h0.size) (O : Old Z n0 h0) (z : Int32) (S_cs : Sta Z Z.heap "java/lang/String" "COMPACT_STRINGS" "Z" (.int z)) (hcs : ¬ z = 0) (S : Sbd Z h0 sb va kv cs) (hl : cs.length ≤ 15) :
    Ct l Z n0 "java/lang/StringBuilder" "toString" "()Ljava/lang/String;" [] jdk_67_method_42_code 1 (some (.object "java/lang/String")) R_tos #[.ref sb] h0 (fun v h => ∃ (x t : Addr) (kt : ClassId), v = some (.ref x) ∧ Keep h0 h [] ∧ n0 ≤ x ∧ h0.size ≤ x ∧ n0 ≤ t ∧ h0.size ≤ t ∧ Byt Z h x t kt cs) := by
  refine Ct.of_go pf_tos (Ls := #[.val (.ref sb)]) (fun m => by first | rfl | (simp [entryFrame, mkF, argsToLocals, Value.category]; done)) ?_
  show GM_tos l Z n0 (fun v h => ∃ (x t : Addr) (kt : ClassId), v = some (.ref x) ∧ Keep h0 h [] ∧ n0 ≤ x ∧ h0.size ≤ x ∧ n0 ≤ t ∧ h0.size ≤ t ∧ Byt Z h x t kt cs) h0 0 0 0 #[.val (.ref sb)] []
  have KK : Keep h0 h0 [] := Keep.refl _ _
  -- at pc 0: pc 0: new .new 18 stack []
  refine Go.new (I' := IN) (hI := nE) (wd_180 hw) (wd_2 hw) (wd_3 hw) d_tos_0 (by decide) (by decide) fun hp27 x e_x X27 E_x D27 => ?_
  have K27 : Keep h0 hp27 [] := (Keep.refl _ _).ext X27
  have g_x : n0 ≤ x := e_x ▸ hz
  have s_x : h0.size ≤ x := e_x ▸ KK.1
  have ne_sb_x : sb ≠ x := Nat.ne_of_lt (e_x ▸ S.lt)
  have ne_va_x : va ≠ x := Nat.ne_of_lt (e_x ▸ S.lt2)
  replace O := O.keep K27 (all0)
  replace S := S.keep K27 nin0 nin0
  have F_x_coder : Fld Z hp27 x "java/lang/String" "coder" "B" (.int (0 : Int32)) := D27 (Or.inr (wd_28 hw)) (ty := .byte) (by decide)
  have F_x_value : Fld Z hp27 x "java/lang/String" "value" "[B" .null := D27 (Or.inr (wd_30 hw)) (ty := (.array .byte)) (by decide)
  replace hz : n0 ≤ hp27.size := Nat.le_trans hz K27.1
  replace KK : Keep h0 hp27 [] := KK.trans K27 (all0)
  refine Go.dup d_tos_3 rfl ?_
  refine Go.aloadN d_tos_4 rfl rfl ?_
  -- at pc 5: pc 5: invokespecial .invokespecial 137 stack [(.ref sb), (.ref x), (.ref x)]
  have KK1 := KK
  refine Go.callI (I' := IN) (hI := nQ) x [(.ref sb)] [(.ref x)] (ct_sinB l Z a0 hw n0 x sb va kv cs _ hz O z S_cs hcs g_x E_x F_x_value F_x_coder S (Ne.symm ne_sb_x) (Ne.symm ne_va_x) hl) (wd_181 hw) (wd_182 hw) (wd_3 hw) (wd_183 hw) (by decide) pd_13 rfl rfl rfl (Nat.le_of_ble_eq_true rfl) (Nat.le_of_ble_eq_true rfl) (Nat.le_of_ble_eq_true rfl) (Nat.le_of_ble_eq_true rfl) d_tos_5 ?_
  rintro _ hp28 ⟨rfl, K28, t, kt, g_t, sz_t, B⟩
  replace O := O.keep K28 (allS g_x (all0))
  replace S := S.keep K28 (ninS ne_sb_x nin0) (ninS ne_va_x nin0)
  replace E_x := E_x.keep K28
  replace hz : n0 ≤ hp28.size := Nat.le_trans hz K28.1
  replace KK : Keep h0 hp28 [] := KK.trans K28 (allS (Or.inr s_x) (all0))
  show GM_tos l Z n0 (fun v h => ∃ (x t : Addr) (kt : ClassId), v = some (.ref x) ∧ Keep h0 h [] ∧ n0 ≤ x ∧ h0.size ≤ x ∧ n0 ≤ t ∧ h0.size ≤ t ∧ Byt Z h x t kt cs) hp28 2 36 8 #[.val (.ref sb)] [(.ref x)]
  have s_t : h0.size ≤ t := Nat.le_trans KK1.1 sz_t
  -- at pc 8: pc 8: areturn .areturn stack [(.ref x)]
  exact Go.areturn d_tos_8 rfl rfl rfl (by decide) (by decide) ⟨x, t, kt, rfl, KK, g_x, s_x, g_t, s_t, B⟩
theorem own_irr (x : Int32) : ¬ x < x := by rw [Int32.lt_iff_toInt_lt]; omega
-- PART utf
abbrev own_b (c : Int32) : Int32 := c.toInt8.toInt32
abbrev own_hb (c : Int32) : Int32 := (c >>> ((8 : Int32) &&& 31)).toInt8.toInt32
/-- the two bytes of each char -/
def enc2 : List Int32 → List Int32
  | [] => []
  | c :: r => own_b c :: own_hb c :: enc2 r
theorem enc2_len : ∀ P : List Int32, (enc2 P).length = 2 * P.length
  | [] => rfl
  | c :: r => by simp only [enc2, List.length_cons, enc2_len r]; omega
theorem enc2_app : ∀ P Q : List Int32, enc2 (P ++ Q) = enc2 P ++ enc2 Q
  | [], _ => rfl
  | c :: r, Q => by simp only [List.cons_append, enc2, enc2_app r Q]
theorem own_of1 (n : Nat) : Int32.ofNat n + (1 : Int32) = Int32.ofNat (n + 1) := (Int32.ofNat_add n 1).symm
theorem own_idx {n m : Nat} (h : n < m) (hm : m < 2 ^ 31) : ¬ Int32.ofNat n < 0 ∧ Int32.ofNat n < Int32.ofNat m := by
  refine ⟨own_nneg (by omega), ?_⟩
  rw [Int32.lt_iff_toInt_lt, own_ofInt (by omega), own_ofInt hm]; omega
theorem own_shl1 (n : Nat) : (Int32.ofNat n) <<< ((1 : Int32) &&& 31) = Int32.ofNat (2 * n) := by
  rw [shlm (m := 2) (by decide), Nat.mul_comm]
  exact (Int32.ofNat_mul n 2).symm
theorem own_setp {Z : State} {h : Heap} {va : Addr} {kv : ClassId} {ty : FieldType} {n : Int32} {m : Nat} {cs : List Int32} {b : Int32} (hm : cs.length < m) (V : Arv Z h va kv ty n ((cs.map Value.int ++ List.replicate (m - cs.length) (Value.int 0)).set cs.length (.int b)) (.int (0 : Int32))) : Arv Z h va kv ty n ((cs ++ [b]).map Value.int) (.int (0 : Int32)) := by
  have e : (cs.map Value.int ++ List.replicate (m - cs.length) (Value.int 0)).set cs.length (.int b) = (cs ++ [b]).map Value.int ++ List.replicate (m - cs.length - 1) (Value.int 0) := by
    rw [List.set_append_right _ _ (by simp)]
    obtain ⟨j, hj⟩ : ∃ j, m - cs.length = j + 1 := ⟨m - cs.length - 1, by omega⟩
    rw [hj]; simp [List.replicate_succ]
  rw [e] at V
  exact V.pad fun i => (pad_rep _ _ _ i).symm
theorem d_putc_0 : decode jdk_52_method_4_code 0 = .ok (.getstatic 44, 3) := by decide +kernel
theorem d_putc_3 : decode jdk_52_method_4_code 3 = .ok (.ifCond .ne 25, 3) := by decide +kernel
theorem d_putc_28 : decode jdk_52_method_4_code 28 = .ok (.iload_n 1, 1) := by decide +kernel
theorem d_putc_29 : decode jdk_52_method_4_code 29 = .ok (.iconst 1, 1) := by decide +kernel
theorem d_putc_30 : decode jdk_52_method_4_code 30 = .ok (.ishl, 1) := by decide +kernel
theorem d_putc_31 : decode jdk_52_method_4_code 31 = .ok (.istore_n 1, 1) := by decide +kernel
theorem d_putc_32 : decode jdk_52_method_4_code 32 = .ok (.aload_n 0, 1) := by decide +kernel
theorem d_putc_33 : decode jdk_52_method_4_code 33 = .ok (.iload_n 1, 1) := by decide +kernel
theorem d_putc_34 : decode jdk_52_method_4_code 34 = .ok (.iinc 1 1, 3) := by decide +kernel
theorem d_putc_37 : decode jdk_52_method_4_code 37 = .ok (.iload_n 2, 1) := by decide +kernel
theorem d_putc_38 : decode jdk_52_method_4_code 38 = .ok (.getstatic 59, 3) := by decide +kernel
theorem d_putc_41 : decode jdk_52_method_4_code 41 = .ok (.ishr, 1) := by decide +kernel
theorem d_putc_42 : decode jdk_52_method_4_code 42 = .ok (.i2b, 1) := by decide +kernel
theorem d_putc_43 : decode jdk_52_method_4_code 43 = .ok (.bastore, 1) := by decide +kernel
theorem d_putc_44 : decode jdk_52_method_4_code 44 = .ok (.aload_n 0, 1) := by decide +kernel
theorem d_putc_45 : decode jdk_52_method_4_code 45 = .ok (.iload_n 1, 1) := by decide +kernel
theorem d_putc_46 : decode jdk_52_method_4_code 46 = .ok (.iload_n 2, 1) := by decide +kernel
theorem d_putc_47 : decode jdk_52_method_4_code 47 = .ok (.getstatic 63, 3) := by decide +kernel
theorem d_putc_50 : decode jdk_52_method_4_code 50 = .ok (.ishr, 1) := by decide +kernel
theorem d_putc_51 : decode jdk_52_method_4_code 51 = .ok (.i2b, 1) := by decide +kernel
theorem d_putc_52 : decode jdk_52_method_4_code 52 = .ok (.bastore, 1) := by decide +kernel
theorem d_putc_53 : decode jdk_52_method_4_code 53 = .ok (.return_, 1) := by decide +kernel
abbrev R_putc : Room := ({ frames := 0, cells := 0, slots := 0, locals := 0 } : Room)
abbrev GM_putc (l : Launch) (Z : State) (n0 : Nat) (Q : Option Value → Heap → Prop) (h : Heap) (cells slots pc : Nat) (Ls : Array Slot) (st : List Value) : Prop := Go l Z n0 R_putc "java/lang/StringUTF16" "putChar" jdk_52_method_4_code 3 none IN (FN n0 R_putc Q) h cells slots pc Ls st
abbrev GW_putc (l : Launch) (Z : State) (EL : List (String × Nat)) (s₀ : State) (n0 : Nat) (Q : Option Value → Heap → Prop) (lo : Nat) (Sf : List Addr) (h : Heap) (cells slots pc : Nat) (Ls : Array Slot) (st : List Value) : Prop := Go l Z n0 R_putc "java/lang/StringUTF16" "putChar" jdk_52_method_4_code 3 none (IW Z EL s₀ lo Sf) (FW Z EL s₀ n0 R_putc Q) h cells slots pc Ls st
theorem pf_putc : plainFor (⟨"java/lang/StringUTF16", "putChar", "([BII)V"⟩ : MethodName) = true := plainFor_of_name (by first | (simp [plainName, overriddenIn]; done) | decide +kernel)
set_option maxHeartbeats 1000000 in
theorem ct_putc (l : Launch) (Z : State) (a0 : Array Value) (hw : ∀ d ∈ tables_1, d.before a0 Z = true) (n0 : Nat) (va : Addr) (kv : ClassId) (P : List Int32) (c : Int32) (M : Nat) (pos : Int32) (h0 : Heap) (O : Old Z n0 h0) (S_ad : Sta Z Z.heap "java/lang/StringUTF16" "$assertionsDisabled" "Z" (.int (1 : Int32))) (S_hi : Sta Z Z.heap "java/lang/StringUTF16" "HI_BYTE_SHIFT" "I" (.int (0 : Int32))) (S_lo : Sta Z Z.heap "java/lang/StringUTF16" "LO_BYTE_SHIFT" "I" (.int (8 : Int32))) (hpos : pos = Int32.ofNat P.length) (g_va : n0 ≤ va) (hP : P.length < M) (hM : M < 2 ^ 29) (V_va : Arv Z h0 va kv .byte (Int32.ofNat (2 * M)) ((enc2 P).map Value.int) (.int (0 : Int32))) :
    Ct l Z n0 "java/lang/StringUTF16" "putChar" "([BII)V" [] jdk_52_method_4_code 3 none R_putc #[.ref va, .int pos, .int c] h0 (fun v h => v = none ∧ Keep h0 h [va] ∧ Arv Z h va kv .byte (Int32.ofNat (2 * M)) ((enc2 (P ++ [c])).map Value.int) (.int (0 : Int32))) := by
  subst hpos
  have hE := enc2_len P
  refine Ct.of_go pf_putc (Ls := #[.val (.ref va), .val (.int (Int32.ofNat P.length)), .val (.int c)]) (fun m => by first | rfl | (simp [entryFrame, mkF, argsToLocals, Value.category]; done)) ?_
  show GM_putc l Z n0 (fun v h => v = none ∧ Keep h0 h [va] ∧ Arv Z h va kv .byte (Int32.ofNat (2 * M)) ((enc2 (P ++ [c])).map Value.int) (.int (0 : Int32))) h0 0 0 0 #[.val (.ref va), .val (.int (Int32.ofNat P.length)), .val (.int c)] []
  refine Go.getS (wd_237 hw) Via.refl (S_ad.ext O.2) d_putc_0 ?_
  -- at pc 3: pc 3: ifCond .ifCond .ne 25 stack [(.int (1 : Int32))]
  -- not: (1 : Int32) = (0 : Int32)
  refine Go.ifT 28 d_putc_3 (feq (by decide)).2 (by decide) (by decide) ?_
  refine Go.iloadN d_putc_28 rfl ?_
  refine Go.iconst 1 d_putc_29 rfl ?_
  refine Go.ishl d_putc_30 ?_
  rw [show ((Int32.ofNat P.length) <<< ((1 : Int32) &&& 31)) = (Int32.ofNat (2 * P.length)) from (own_shl1 _)]
  refine Go.istoreN (Ls' := #[.val (.ref va), .val (.int (Int32.ofNat (2 * P.length))), .val (.int c)]) d_putc_31 rfl ?_
  refine Go.aloadN d_putc_32 rfl rfl ?_
  refine Go.iloadN d_putc_33 rfl ?_
  refine Go.iinc (Ls' := #[.val (.ref va), .val (.int ((Int32.ofNat (2 * P.length)) + (1 : Int32))), .val (.int c)]) (1 : Int32) rfl d_putc_34 rfl rfl ?_
  refine Go.iloadN d_putc_37 rfl ?_
  refine Go.getS (wd_238 hw) Via.refl (S_hi.ext O.2) d_putc_38 ?_
  refine Go.ishr d_putc_41 ?_
  rw [show (c >>> ((0 : Int32) &&& 31)) = c from (own_shr0 c)]
  refine Go.i2b d_putc_42 ?_
  refine Go.bastore (I' := IN) (hI := nI) (V_va.pad (pad_rep _ _ (2 * M - (enc2 P).length))) (own_idx (by omega) (by omega)) g_va (enc2 P).length (by rw [own_clamp (by omega)]; omega) (by simp; omega) d_putc_43 fun h1 K1 V1 => ?_
  rw [own_b8] at V1
  replace V1 := own_setp (m := 2 * M) (cs := enc2 P) (by omega) V1
  replace O := O.keep K1 (allS g_va (all0))
  show GM_putc l Z n0 (fun v h => v = none ∧ Keep h0 h [va] ∧ Arv Z h va kv .byte (Int32.ofNat (2 * M)) ((enc2 (P ++ [c])).map Value.int) (.int (0 : Int32))) h1 0 0 44 #[.val (.ref va), .val (.int ((Int32.ofNat (2 * P.length)) + (1 : Int32))), .val (.int c)] []
  refine Go.aloadN d_putc_44 rfl rfl ?_
  refine Go.iloadN d_putc_45 rfl ?_
  refine Go.iloadN d_putc_46 rfl ?_
  refine Go.getS (wd_239 hw) Via.refl (S_lo.ext O.2) d_putc_47 ?_
  refine Go.ishr d_putc_50 ?_
  refine Go.i2b d_putc_51 ?_
  rw [show ((Int32.ofNat (2 * P.length)) + (1 : Int32)) = (Int32.ofNat (2 * P.length + 1)) from (own_of1 _)]
  have hE1 : (enc2 P ++ [own_b c]).length = 2 * P.length + 1 := by rw [List.length_append, hE]; rfl
  refine Go.bastore (I' := IN) (hI := nI) (V1.pad (pad_rep _ _ (2 * M - (enc2 P ++ [own_b c]).length))) (own_idx (by omega) (by omega)) g_va (enc2 P ++ [own_b c]).length (by rw [own_clamp (by omega)]; omega) (by simp; omega) d_putc_52 fun h2 K2 V2 => ?_
  rw [own_b8] at V2
  replace V2 := own_setp (m := 2 * M) (cs := enc2 P ++ [own_b c]) (by omega) V2
  show GM_putc l Z n0 (fun v h => v = none ∧ Keep h0 h [va] ∧ Arv Z h va kv .byte (Int32.ofNat (2 * M)) ((enc2 (P ++ [c])).map Value.int) (.int (0 : Int32))) h2 0 0 53 #[.val (.ref va), .val (.int (Int32.ofNat (2 * P.length + 1))), .val (.int c)] []
  -- at pc 53: pc 53: return .return_ stack []
  exact Go.return_ d_putc_53 rfl (by decide) (by decide) ⟨rfl, K1.trans K2 (fun y hy => Or.inl hy), by rw [enc2_app]; rw [List.append_assoc] at V2; exact V2⟩
theorem d_nblen_0 : decode jdk_52_method_3_code 0 = .ok (.iload_n 0, 1) := by decide +kernel
theorem d_nblen_1 : decode jdk_52_method_3_code 1 = .ok (.ifCond .ge 11, 3) := by decide +kernel
theorem d_nblen_12 : decode jdk_52_method_3_code 12 = .ok (.iload_n 0, 1) := by decide +kernel
theorem d_nblen_13 : decode jdk_52_method_3_code 13 = .ok (.ldc 20, 2) := by decide +kernel
theorem d_nblen_15 : decode jdk_52_method_3_code 15 = .ok (.if_icmp .lt 40, 3) := by decide +kernel
theorem d_nblen_55 : decode jdk_52_method_3_code 55 = .ok (.iload_n 0, 1) := by decide +kernel
theorem d_nblen_56 : decode jdk_52_method_3_code 56 = .ok (.iconst 1, 1) := by decide +kernel
theorem d_nblen_57 : decode jdk_52_method_3_code 57 = .ok (.ishl, 1) := by decide +kernel
theorem d_nblen_58 : decode jdk_52_method_3_code 58 = .ok (.ireturn, 1) := by decide +kernel
abbrev R_nblen : Room := ({ frames := 0, cells := 0, slots := 0, locals := 0 } : Room)
abbrev GM_nblen (l : Launch) (Z : State) (n0 : Nat) (Q : Option Value → Heap → Prop) (h : Heap) (cells slots pc : Nat) (Ls : Array Slot) (st : List Value) : Prop := Go l Z n0 R_nblen "java/lang/StringUTF16" "newBytesLength" jdk_52_method_3_code 1 (some .int) IN (FN n0 R_nblen Q) h cells slots pc Ls st
abbrev GW_nblen (l : Launch) (Z : State) (EL : List (String × Nat)) (s₀ : State) (n0 : Nat) (Q : Option Value → Heap → Prop) (lo : Nat) (Sf : List Addr) (h : Heap) (cells slots pc : Nat) (Ls : Array Slot) (st : List Value) : Prop := Go l Z n0 R_nblen "java/lang/StringUTF16" "newBytesLength" jdk_52_method_3_code 1 (some .int) (IW Z EL s₀ lo Sf) (FW Z EL s₀ n0 R_nblen Q) h cells slots pc Ls st
theorem pf_nblen : plainFor (⟨"java/lang/StringUTF16", "newBytesLength", "(I)I"⟩ : MethodName) = true := plainFor_of_name (by first | (simp [plainName, overriddenIn]; done) | decide +kernel)
theorem ct_nblen (l : Launch) (Z : State) (a0 : Array Value) (hw : ∀ d ∈ tables_1, d.before a0 Z = true) (n0 : Nat) (m : Nat) (hm : m < 2 ^ 29) (h0 : Heap) : Ct l Z n0 "java/lang/StringUTF16" "newBytesLength" "(I)I" [] jdk_52_method_3_code 1 (some .int) R_nblen #[.int (Int32.ofNat m)] h0 (fun v h => v = some (.int (Int32.ofNat (2 * m))) ∧ h0 = h) := by
  refine Ct.of_go pf_nblen (Ls := #[.val (.int (Int32.ofNat m))]) (fun m => by first | rfl | (simp [entryFrame, mkF, argsToLocals, Value.category]; done)) ?_
  show GM_nblen l Z n0 (fun v h => v = some (.int (Int32.ofNat (2 * m))) ∧ h0 = h) h0 0 0 0 #[.val (.int (Int32.ofNat m))] []
  refine Go.iloadN d_nblen_0 rfl ?_
  -- at pc 1: pc 1: ifCond .ifCond .ge 11 stack [(.int (Int32.ofNat m))]
  -- not: (Int32.ofNat m) < (0 : Int32)
  refine Go.ifT 12 d_nblen_1 (flt ((own_nneg (by omega)))).2.1 (by decide) (by decide) ?_
  refine Go.iloadN d_nblen_12 rfl ?_
  refine Go.ldc (wd_233 hw) d_nblen_13 ?_
  -- at pc 15: pc 15: if_icmp .if_icmp .lt 40 stack [(.int (1073741823 : Int32)), (.int (Int32.ofNat m))]
  -- (Int32.ofNat m) < (1073741823 : Int32)
  refine Go.icT 55 d_nblen_15 (tlt ((by rw [Int32.lt_iff_toInt_lt, own_ofInt (by omega)]; show (m : Int) < 1073741823; omega))).1 (by decide) (by decide) ?_
  refine Go.iloadN d_nblen_55 rfl ?_
  refine Go.iconst 1 d_nblen_56 rfl ?_
  refine Go.ishl d_nblen_57 ?_
  rw [show ((Int32.ofNat m) <<< ((1 : Int32) &&& 31)) = (Int32.ofNat (2 * m)) from (own_shl1 _)]
  exact Go.ireturn d_nblen_58 rfl (by decide) (by decide) ⟨rfl, rfl⟩
theorem d_nbfor_0 : decode jdk_52_method_2_code 0 = .ok (.iload_n 0, 1) := by decide +kernel
theorem d_nbfor_1 : decode jdk_52_method_2_code 1 = .ok (.invokestatic 11, 3) := by decide +kernel
theorem d_nbfor_4 : decode jdk_52_method_2_code 4 = .ok (.newarray .byte, 2) := by decide +kernel
theorem d_nbfor_6 : decode jdk_52_method_2_code 6 = .ok (.areturn, 1) := by decide +kernel
abbrev R_nbfor : Room := ({ frames := 1, cells := 1, slots := 32, locals := 12 } : Room)
abbrev GM_nbfor (l : Launch) (Z : State) (n0 : Nat) (Q : Option Value → Heap → Prop) (h : Heap) (cells slots pc : Nat) (Ls : Array Slot) (st : List Value) : Prop := Go l Z n0 R_nbfor "java/lang/StringUTF16" "newBytesFor" jdk_52_method_2_code 1 (some (.array .byte)) IN (FN n0 R_nbfor Q) h cells slots pc Ls st
abbrev GW_nbfor (l : Launch) (Z : State) (EL : List (String × Nat)) (s₀ : State) (n0 : Nat) (Q : Option Value → Heap → Prop) (lo : Nat) (Sf : List Addr) (h : Heap) (cells slots pc : Nat) (Ls : Array Slot) (st : List Value) : Prop := Go l Z n0 R_nbfor "java/lang/StringUTF16" "newBytesFor" jdk_52_method_2_code 1 (some (.array .byte)) (IW Z EL s₀ lo Sf) (FW Z EL s₀ n0 R_nbfor Q) h cells slots pc Ls st
theorem pf_nbfor : plainFor (⟨"java/lang/StringUTF16", "newBytesFor", "(I)[B"⟩ : MethodName) = true := plainFor_of_name (by first | (simp [plainName, overriddenIn]; done) | decide +kernel)
theorem ct_nbfor (l : Launch) (Z : State) (a0 : Array Value) (hw : ∀ d ∈ tables_1, d.before a0 Z = true) (n0 : Nat) (m : Nat) (hm : m ≤ 16) (h0 : Heap) (hz : n0 ≤ h0.size) : Ct l Z n0 "java/lang/StringUTF16" "newBytesFor" "(I)[B" [] jdk_52_method_2_code 1 (some (.array .byte)) R_nbfor #[.int (Int32.ofNat m)] h0 (fun v h => ∃ (b : Addr) (k : ClassId), v = some (.ref b) ∧ n0 ≤ b ∧ h0.size ≤ b ∧ Keep h0 h [] ∧ Arv Z h b k .byte (Int32.ofNat (2 * m)) (([] : List Int32).map Value.int) (.int (0 : Int32))) := by
  refine Ct.of_go pf_nbfor (Ls := #[.val (.int (Int32.ofNat m))]) (fun m => by first | rfl | (simp [entryFrame, mkF, argsToLocals, Value.category]; done)) ?_
  show GM_nbfor l Z n0 (fun v h => ∃ (b : Addr) (k : ClassId), v = some (.ref b) ∧ n0 ≤ b ∧ h0.size ≤ b ∧ Keep h0 h [] ∧ Arv Z h b k .byte (Int32.ofNat (2 * m)) (([] : List Int32).map Value.int) (.int (0 : Int32))) h0 0 0 0 #[.val (.int (Int32.ofNat m))] []
  have KK : Keep h0 h0 [] := Keep.refl _ _
  refine Go.iloadN d_nbfor_0 rfl ?_
  -- at pc 1: pc 1: invokestatic .invokestatic 11 stack [(.int (Int32.ofNat m))]
  refine Go.callS (I' := IN) (hI := nQ) [(.int (Int32.ofNat m))] [] (ct_nblen l Z a0 hw n0 m (by omega) _) (wd_230 hw) (wd_231 hw) (wd_18 hw) (wd_232 hw) (by decide) pd_14 rfl rfl rfl (Nat.le_of_ble_eq_true rfl) (Nat.le_of_ble_eq_true rfl) (Nat.le_of_ble_eq_true rfl) (Nat.le_of_ble_eq_true rfl) d_nbfor_1 ?_
  rintro _ _ ⟨rfl, rfl⟩
  show GM_nbfor l Z n0 (fun v h => ∃ (b : Addr) (k : ClassId), v = some (.ref b) ∧ n0 ≤ b ∧ h0.size ≤ b ∧ Keep h0 h [] ∧ Arv Z h b k .byte (Int32.ofNat (2 * m)) (([] : List Int32).map Value.int) (.int (0 : Int32))) h0 0 0 4 #[.val (.int (Int32.ofNat m))] [(.int (Int32.ofNat (2 * m)))]
  refine Go.newP (I' := IN) (hI := nE) .byte (wd_20 hw) rfl d_nbfor_4 (own_nneg (by omega)) 32 (by rw [own_clamp (by omega)]; omega) (by decide) (by decide) (by decide) fun hp30 b k_b e_b X30 V_b => ?_
  have K30 : Keep h0 hp30 [] := (Keep.refl _ _).ext X30
  have g_b : n0 ≤ b := e_b ▸ hz
  have s_b : h0.size ≤ b := e_b ▸ KK.1
  replace hz : n0 ≤ hp30.size := Nat.le_trans hz K30.1
  replace KK : Keep h0 hp30 [] := KK.trans K30 (all0)
  -- at pc 6: pc 6: areturn .areturn stack [(.ref b)]
  exact Go.areturn d_nbfor_6 rfl rfl rfl (by decide) (by decide) ⟨b, k_b, rfl, g_b, s_b, KK, V_b⟩
theorem d_getc_0 : decode jdk_52_method_5_code 0 = .ok (.getstatic 44, 3) := by decide +kernel
theorem d_getc_3 : decode jdk_52_method_5_code 3 = .ok (.ifCond .ne 25, 3) := by decide +kernel
theorem d_getc_28 : decode jdk_52_method_5_code 28 = .ok (.iload_n 1, 1) := by decide +kernel
theorem d_getc_29 : decode jdk_52_method_5_code 29 = .ok (.iconst 1, 1) := by decide +kernel
theorem d_getc_30 : decode jdk_52_method_5_code 30 = .ok (.ishl, 1) := by decide +kernel
theorem d_getc_31 : decode jdk_52_method_5_code 31 = .ok (.istore_n 1, 1) := by decide +kernel
theorem d_getc_32 : decode jdk_52_method_5_code 32 = .ok (.aload_n 0, 1) := by decide +kernel
theorem d_getc_33 : decode jdk_52_method_5_code 33 = .ok (.iload_n 1, 1) := by decide +kernel
theorem d_getc_34 : decode jdk_52_method_5_code 34 = .ok (.iinc 1 1, 3) := by decide +kernel
theorem d_getc_37 : decode jdk_52_method_5_code 37 = .ok (.baload, 1) := by decide +kernel
theorem d_getc_38 : decode jdk_52_method_5_code 38 = .ok (.sipush 255, 3) := by decide +kernel
theorem d_getc_41 : decode jdk_52_method_5_code 41 = .ok (.iand, 1) := by decide +kernel
theorem d_getc_42 : decode jdk_52_method_5_code 42 = .ok (.getstatic 59, 3) := by decide +kernel
theorem d_getc_45 : decode jdk_52_method_5_code 45 = .ok (.ishl, 1) := by decide +kernel
theorem d_getc_46 : decode jdk_52_method_5_code 46 = .ok (.aload_n 0, 1) := by decide +kernel
theorem d_getc_47 : decode jdk_52_method_5_code 47 = .ok (.iload_n 1, 1) := by decide +kernel
theorem d_getc_48 : decode jdk_52_method_5_code 48 = .ok (.baload, 1) := by decide +kernel
theorem d_getc_49 : decode jdk_52_method_5_code 49 = .ok (.sipush 255, 3) := by decide +kernel
theorem d_getc_52 : decode jdk_52_method_5_code 52 = .ok (.iand, 1) := by decide +kernel
theorem d_getc_53 : decode jdk_52_method_5_code 53 = .ok (.getstatic 63, 3) := by decide +kernel
theorem d_getc_56 : decode jdk_52_method_5_code 56 = .ok (.ishl, 1) := by decide +kernel
theorem d_getc_57 : decode jdk_52_method_5_code 57 = .ok (.ior, 1) := by decide +kernel
theorem d_getc_58 : decode jdk_52_method_5_code 58 = .ok (.i2c, 1) := by decide +kernel
theorem d_getc_59 : decode jdk_52_method_5_code 59 = .ok (.ireturn, 1) := by decide +kernel
abbrev R_getc : Room := ({ frames := 0, cells := 0, slots := 0, locals := 0 } : Room)
abbrev GM_getc (l : Launch) (Z : State) (n0 : Nat) (Q : Option Value → Heap → Prop) (h : Heap) (cells slots pc : Nat) (Ls : Array Slot) (st : List Value) : Prop := Go l Z n0 R_getc "java/lang/StringUTF16" "getChar" jdk_52_method_5_code 2 (some .char) IN (FN n0 R_getc Q) h cells slots pc Ls st
abbrev GW_getc (l : Launch) (Z : State) (EL : List (String × Nat)) (s₀ : State) (n0 : Nat) (Q : Option Value → Heap → Prop) (lo : Nat) (Sf : List Addr) (h : Heap) (cells slots pc : Nat) (Ls : Array Slot) (st : List Value) : Prop := Go l Z n0 R_getc "java/lang/StringUTF16" "getChar" jdk_52_method_5_code 2 (some .char) (IW Z EL s₀ lo Sf) (FW Z EL s₀ n0 R_getc Q) h cells slots pc Ls st
theorem pf_getc : plainFor (⟨"java/lang/StringUTF16", "getChar", "([BI)C"⟩ : MethodName) = true := plainFor_of_name (by first | (simp [plainName, overriddenIn]; done) | decide +kernel)
/-- what getChar reads out of two bytes -/
abbrev own_gc (x y : Int32) : Int32 := (((x &&& (255 : Int32)) <<< ((0 : Int32) &&& 31)) ||| ((y &&& (255 : Int32)) <<< ((8 : Int32) &&& 31))).toUInt32.toUInt16.toUInt32.toInt32
theorem ct_getc (l : Launch) (Z : State) (a0 : Array Value) (hw : ∀ d ∈ tables_1, d.before a0 Z = true) (n0 : Nat) (va : Addr) (kv : ClassId) (bs : List Int32) (j : Nat) (x y : Int32) (N : Nat) (h0 : Heap) (O : Old Z n0 h0) (S_ad : Sta Z Z.heap "java/lang/StringUTF16" "$assertionsDisabled" "Z" (.int (1 : Int32))) (S_hi : Sta Z Z.heap "java/lang/StringUTF16" "HI_BYTE_SHIFT" "I" (.int (0 : Int32))) (S_lo : Sta Z Z.heap "java/lang/StringUTF16" "LO_BYTE_SHIFT" "I" (.int (8 : Int32))) (hN : N < 2 ^ 30) (hj : 2 * j + 1 < N) (hx : bs[2 * j]? = some x) (hy : bs[2 * j + 1]? = some y) (V_va : Arv Z h0 va kv .byte (Int32.ofNat N) (bs.map Value.int) (.int (0 : Int32))) :
    Ct l Z n0 "java/lang/StringUTF16" "getChar" "([BI)C" [] jdk_52_method_5_code 2 (some .char) R_getc #[.ref va, .int (Int32.ofNat j)] h0 (fun v h => v = some (.int (nar .char (own_gc x y))) ∧ h0 = h) := by
  refine Ct.of_go pf_getc (Ls := #[.val (.ref va), .val (.int (Int32.ofNat j))]) (fun m => by first | rfl | (simp [entryFrame, mkF, argsToLocals, Value.category]; done)) ?_
  show GM_getc l Z n0 (fun v h => v = some (.int (nar .char (own_gc x y))) ∧ h0 = h) h0 0 0 0 #[.val (.ref va), .val (.int (Int32.ofNat j))] []
  refine Go.getS (wd_237 hw) Via.refl (S_ad.ext O.2) d_getc_0 ?_
  -- at pc 3: pc 3: ifCond .ifCond .ne 25 stack [(.int (1 : Int32))]
  -- not: (1 : Int32) = (0 : Int32)
  refine Go.ifT 28 d_getc_3 (feq (by decide)).2 (by decide) (by decide) ?_
  refine Go.iloadN d_getc_28 rfl ?_
  refine Go.iconst 1 d_getc_29 rfl ?_
  refine Go.ishl d_getc_30 ?_
  rw [show ((Int32.ofNat j) <<< ((1 : Int32) &&& 31)) = (Int32.ofNat (2 * j)) from (own_shl1 _)]
  refine Go.istoreN (Ls' := #[.val (.ref va), .val (.int (Int32.ofNat (2 * j)))]) d_getc_31 rfl ?_
  refine Go.aloadN d_getc_32 rfl rfl ?_
  refine Go.iloadN d_getc_33 rfl ?_
  refine Go.iinc (Ls' := #[.val (.ref va), .val (.int ((Int32.ofNat (2 * j)) + (1 : Int32)))]) (1 : Int32) rfl d_getc_34 rfl rfl ?_
  rw [show ((Int32.ofNat (2 * j)) + (1 : Int32)) = (Int32.ofNat (2 * j + 1)) from (own_of1 _)]
  refine Go.baload (.int x) V_va (own_idx (by omega) (by omega)) (by rw [own_clamp (by omega), List.getD_eq_getElem?_getD, List.getElem?_map, hx]; rfl) d_getc_37 ?_
  refine Go.sipush 255 d_getc_38 rfl ?_
  refine Go.iand d_getc_41 ?_
  refine Go.getS (wd_238 hw) Via.refl (S_hi.ext O.2) d_getc_42 ?_
  refine Go.ishl d_getc_45 ?_
  refine Go.aloadN d_getc_46 rfl rfl ?_
  refine Go.iloadN d_getc_47 rfl ?_
  refine Go.baload (.int y) V_va (own_idx (by omega) (by omega)) (by rw [own_clamp (by omega), List.getD_eq_getElem?_getD, List.getElem?_map, hy]; rfl) d_getc_48 ?_
  refine Go.sipush 255 d_getc_49 rfl ?_
  refine Go.iand d_getc_52 ?_
  refine Go.getS (wd_239 hw) Via.refl (S_lo.ext O.2) d_getc_53 ?_
  refine Go.ishl d_getc_56 ?_
  refine Go.ior d_getc_57 ?_
  refine Go.i2c d_getc_58 ?_
  -- at pc 59: pc 59: ireturn .ireturn stack [(.int ((((x &&& (255 : Int32)) <<< ((0 : Int32) &&& 31)) ||| ((y &&& (255 : Int32)) <<< ((8 : Int32) &&& 31))).toUInt32.toUInt16.toUInt32.toInt32))]
  exact Go.nreturn .char d_getc_59 rfl (by simp) (by decide) (by decide) ⟨rfl, rfl⟩
theorem d_cmpr_0 : decode jdk_52_method_21_code 0 = .ok (.iconst 0, 1) := by decide +kernel
theorem d_cmpr_1 : decode jdk_52_method_21_code 1 = .ok (.istore 5, 2) := by decide +kernel
theorem d_cmpr_3 : decode jdk_52_method_21_code 3 = .ok (.iload 5, 2) := by decide +kernel
theorem d_cmpr_5 : decode jdk_52_method_21_code 5 = .ok (.iload 4, 2) := by decide +kernel
theorem d_cmpr_7 : decode jdk_52_method_21_code 7 = .ok (.if_icmp .ge 37, 3) := by decide +kernel
theorem d_cmpr_10 : decode jdk_52_method_21_code 10 = .ok (.aload_n 0, 1) := by decide +kernel
theorem d_cmpr_11 : decode jdk_52_method_21_code 11 = .ok (.iload_n 1, 1) := by decide +kernel
theorem d_cmpr_12 : decode jdk_52_method_21_code 12 = .ok (.caload, 1) := by decide +kernel
theorem d_cmpr_13 : decode jdk_52_method_21_code 13 = .ok (.istore 6, 2) := by decide +kernel
theorem d_cmpr_15 : decode jdk_52_method_21_code 15 = .ok (.iload 6, 2) := by decide +kernel
theorem d_cmpr_17 : decode jdk_52_method_21_code 17 = .ok (.sipush 255, 3) := by decide +kernel
theorem d_cmpr_20 : decode jdk_52_method_21_code 20 = .ok (.if_icmp .le 6, 3) := by decide +kernel
theorem d_cmpr_23 : decode jdk_52_method_21_code 23 = .ok (.iload 5, 2) := by decide +kernel
theorem d_cmpr_25 : decode jdk_52_method_21_code 25 = .ok (.ireturn, 1) := by decide +kernel
theorem d_cmpr_26 : decode jdk_52_method_21_code 26 = .ok (.aload_n 2, 1) := by decide +kernel
theorem d_cmpr_27 : decode jdk_52_method_21_code 27 = .ok (.iload_n 3, 1) := by decide +kernel
theorem d_cmpr_28 : decode jdk_52_method_21_code 28 = .ok (.iload 6, 2) := by decide +kernel
theorem d_cmpr_30 : decode jdk_52_method_21_code 30 = .ok (.i2b, 1) := by decide +kernel
theorem d_cmpr_31 : decode jdk_52_method_21_code 31 = .ok (.bastore, 1) := by decide +kernel
theorem d_cmpr_32 : decode jdk_52_method_21_code 32 = .ok (.iinc 1 1, 3) := by decide +kernel
theorem d_cmpr_35 : decode jdk_52_method_21_code 35 = .ok (.iinc 3 1, 3) := by decide +kernel
theorem d_cmpr_38 : decode jdk_52_method_21_code 38 = .ok (.iinc 5 1, 3) := by decide +kernel
theorem d_cmpr_41 : decode jdk_52_method_21_code 41 = .ok (.goto (-38), 3) := by decide +kernel
theorem d_cmpr_44 : decode jdk_52_method_21_code 44 = .ok (.iload 4, 2) := by decide +kernel
theorem d_cmpr_46 : decode jdk_52_method_21_code 46 = .ok (.ireturn, 1) := by decide +kernel
abbrev R_cmpr : Room := ({ frames := 0, cells := 0, slots := 0, locals := 0 } : Room)
abbrev GM_cmpr (l : Launch) (Z : State) (n0 : Nat) (Q : Option Value → Heap → Prop) (h : Heap) (cells slots pc : Nat) (Ls : Array Slot) (st : List Value) : Prop := Go l Z n0 R_cmpr "java/lang/StringUTF16" "compress" jdk_52_method_21_code 7 (some .int) IN (FN n0 R_cmpr Q) h cells slots pc Ls st
abbrev GW_cmpr (l : Launch) (Z : State) (EL : List (String × Nat)) (s₀ : State) (n0 : Nat) (Q : Option Value → Heap → Prop) (lo : Nat) (Sf : List Addr) (h : Heap) (cells slots pc : Nat) (Ls : Array Slot) (st : List Value) : Prop := Go l Z n0 R_cmpr "java/lang/StringUTF16" "compress" jdk_52_method_21_code 7 (some .int) (IW Z EL s₀ lo Sf) (FW Z EL s₀ n0 R_cmpr Q) h cells slots pc Ls st
theorem pf_cmpr : plainFor (⟨"java/lang/StringUTF16", "compress", "([CI[BII)I"⟩ : MethodName) = true := plainFor_of_name (by first | (simp [plainName, overriddenIn]; done) | decide +kernel)
set_option maxHeartbeats 2000000 in
theorem ct_cmpr (l : Launch) (Z : State) (a0 : Array Value) (hw : ∀ d ∈ tables_1, d.before a0 Z = true) (n0 : Nat) (ca da : Addr) (kc kd : ClassId) (cs P R : List Int32) (c : Int32) (h0 : Heap) (hcs : cs = P ++ c :: R) (hn : cs.length ≤ 16) (hP : ∀ x ∈ P, ¬ (255 : Int32) < x) (hc : (255 : Int32) < c) (g_da : n0 ≤ da) (ncd : ca ≠ da) (V_ca : Arv Z h0 ca kc .char (Int32.ofNat cs.length) (cs.map Value.int) (.int (0 : Int32))) (V_da : Arv Z h0 da kd .byte (Int32.ofNat cs.length) (([] : List Int32).map Value.int) (.int (0 : Int32))) :
    Ct l Z n0 "java/lang/StringUTF16" "compress" "([CI[BII)I" [] jdk_52_method_21_code 7 (some .int) R_cmpr #[.ref ca, .int (0 : Int32), .ref da, .int (0 : Int32), .int (Int32.ofNat cs.length)] h0 (fun v h => v = some (.int (Int32.ofNat P.length)) ∧ Keep h0 h [da]) := by
  have V_ca0 := V_ca
  refine Ct.of_go pf_cmpr (Ls := #[.val (.ref ca), .val (.int (0 : Int32)), .val (.ref da), .val (.int (0 : Int32)), .val (.int (Int32.ofNat cs.length)), .unset, .unset]) (fun m => by first | rfl | (simp [entryFrame, mkF, argsToLocals, Value.category]; done)) ?_
  show GM_cmpr l Z n0 (fun v h => v = some (.int (Int32.ofNat P.length)) ∧ Keep h0 h [da]) h0 0 0 0 #[.val (.ref ca), .val (.int (0 : Int32)), .val (.ref da), .val (.int (0 : Int32)), .val (.int (Int32.ofNat cs.length)), .unset, .unset] []
  have KK : Keep h0 h0 [da] := Keep.refl _ _
  refine Go.iconst 0 d_cmpr_0 rfl ?_
  refine Go.istore (Ls' := #[.val (.ref ca), .val (.int (0 : Int32)), .val (.ref da), .val (.int (0 : Int32)), .val (.int (Int32.ofNat cs.length)), .val (.int (0 : Int32)), .unset]) d_cmpr_1 rfl ?_
  have loop : ∀ (Q : List Int32) (i : Nat) (B : List Int32) (sl : Slot) (h : Heap), cs.drop i = Q ++ c :: R → i + Q.length = P.length → (∀ x ∈ Q, ¬ (255 : Int32) < x) → B.length = i → One sl → Keep h0 h [da] → Arv Z h da kd .byte (Int32.ofNat cs.length) (B.map Value.int) (.int (0 : Int32)) → GM_cmpr l Z n0 (fun v h => v = some (.int (Int32.ofNat P.length)) ∧ Keep h0 h [da]) h 0 0 3 #[.val (.ref ca), .val (.int (Int32.ofNat i)), .val (.ref da), .val (.int (Int32.ofNat i)), .val (.int (Int32.ofNat cs.length)), .val (.int (Int32.ofNat i)), sl] [] := by
    clear V_ca V_da KK
    intro Q
    induction Q with
    | nil =>
      intro i B sl h hd hi hQ hB o_sl KK V_da
      have V_ca := V_ca0.keep KK (ninS ncd nin0)
      have hci : cs[i]? = some c := by
        have := congrArg (fun L => L[0]?) hd
        simpa using this
      have hil : i < cs.length := (List.getElem?_eq_some_iff.mp hci).1
      refine Go.iload d_cmpr_3 rfl ?_
      refine Go.iload d_cmpr_5 rfl ?_
      -- at pc 7: pc 7: if_icmp .if_icmp .ge 37 stack [(.int (Int32.ofNat cs.length)), (.int (Int32.ofNat i))]
      -- (Int32.ofNat i) < (Int32.ofNat cs.length)
      refine Go.icF d_cmpr_7 (tlt ((own_idx hil (by omega)).2)).2.1 ?_
      refine Go.aloadN d_cmpr_10 rfl rfl ?_
      refine Go.iloadN d_cmpr_11 rfl ?_
      -- at pc 12: pc 12: caload of ca at (Int32.ofNat i): '!aload value ; bounds ; getD'
      refine Go.caload (.int c) V_ca (own_idx hil (by omega)) (by rw [own_clamp (by omega), List.getD_eq_getElem?_getD, List.getElem?_map, hci]; rfl) d_cmpr_12 ?_
      refine Go.istore (Ls' := #[.val (.ref ca), .val (.int (Int32.ofNat i)), .val (.ref da), .val (.int (Int32.ofNat i)), .val (.int (Int32.ofNat cs.length)), .val (.int (Int32.ofNat i)), .val (.int c)]) d_cmpr_13 (st_at rfl o_sl rfl rfl) ?_
      refine Go.iload d_cmpr_15 rfl ?_
      refine Go.sipush 255 d_cmpr_17 rfl ?_
      -- at pc 20: pc 20: if_icmp .if_icmp .le 6 stack [(.int (255 : Int32)), (.int c)]
      -- (255 : Int32) < c
      refine Go.icF d_cmpr_20 (tlt (hc)).2.2.2 ?_
      refine Go.iload d_cmpr_23 rfl ?_
      -- at pc 25: pc 25: ireturn .ireturn stack [(.int (Int32.ofNat i))]
      exact Go.ireturn d_cmpr_25 rfl (by decide) (by decide) ⟨by rw [← hi]; rfl, KK⟩
    | cons x Q ih =>
      intro i B sl h hd hi hQ hB o_sl KK V_da
      have V_ca := V_ca0.keep KK (ninS ncd nin0)
      have hci : cs[i]? = some x := by
        have := congrArg (fun L => L[0]?) hd
        simpa using this
      have hil : i < cs.length := (List.getElem?_eq_some_iff.mp hci).1
      have hd' : cs.drop (i + 1) = Q ++ c :: R := by rw [← List.drop_drop, hd]; rfl
      refine Go.iload d_cmpr_3 rfl ?_
      refine Go.iload d_cmpr_5 rfl ?_
      -- at pc 7: pc 7: if_icmp .if_icmp .ge 37 stack [(.int (Int32.ofNat cs.length)), (.int (Int32.ofNat i))]
      -- (Int32.ofNat i) < (Int32.ofNat cs.length)
      refine Go.icF d_cmpr_7 (tlt ((own_idx hil (by omega)).2)).2.1 ?_
      refine Go.aloadN d_cmpr_10 rfl rfl ?_
      refine Go.iloadN d_cmpr_11 rfl ?_
      -- at pc 12: pc 12: caload of ca at (Int32.ofNat i): '!aload value ; bounds ; getD'
      refine Go.caload (.int x) V_ca (own_idx hil (by omega)) (by rw [own_clamp (by omega), List.getD_eq_getElem?_getD, List.getElem?_map, hci]; rfl) d_cmpr_12 ?_
      refine Go.istore (Ls' := #[.val (.ref ca), .val (.int (Int32.ofNat i)), .val (.ref da), .val (.int (Int32.ofNat i)), .val (.int (Int32.ofNat cs.length)), .val (.int (Int32.ofNat i)), .val (.int x)]) d_cmpr_13 (st_at rfl o_sl rfl rfl) ?_
      refine Go.iload d_cmpr_15 rfl ?_
      refine Go.sipush 255 d_cmpr_17 rfl ?_
      -- at pc 20: pc 20: if_icmp .if_icmp .le 6 stack [(.int (255 : Int32)), (.int x)]
      -- not: (255 : Int32) < x
      refine Go.icT 26 d_cmpr_20 (flt ((hQ x (by simp)))).2.2.2 (by decide) (by decide) ?_
      refine Go.aloadN d_cmpr_26 rfl rfl ?_
      refine Go.iloadN d_cmpr_27 rfl ?_
      refine Go.iload d_cmpr_28 rfl ?_
      refine Go.i2b d_cmpr_30 ?_
      refine Go.bastore (I' := IN) (hI := nI) (V_da.pad (pad_rep _ _ (cs.length - B.length))) (own_idx hil (by omega)) g_da B.length (by rw [own_clamp (by omega)]; omega) (by simp; omega) d_cmpr_31 fun h1 K1 V1 => ?_
      rw [own_b8] at V1
      replace V1 := own_setp (m := cs.length) (cs := B) (by omega) V1
      show GM_cmpr l Z n0 (fun v h => v = some (.int (Int32.ofNat P.length)) ∧ Keep h0 h [da]) h1 0 0 32 #[.val (.ref ca), .val (.int (Int32.ofNat i)), .val (.ref da), .val (.int (Int32.ofNat i)), .val (.int (Int32.ofNat cs.length)), .val (.int (Int32.ofNat i)), .val (.int x)] []
      refine Go.iinc (Ls' := #[.val (.ref ca), .val (.int ((Int32.ofNat i) + (1 : Int32))), .val (.ref da), .val (.int (Int32.ofNat i)), .val (.int (Int32.ofNat cs.length)), .val (.int (Int32.ofNat i)), .val (.int x)]) (1 : Int32) rfl d_cmpr_32 rfl rfl ?_
      refine Go.iinc (Ls' := #[.val (.ref ca), .val (.int ((Int32.ofNat i) + (1 : Int32))), .val (.ref da), .val (.int ((Int32.ofNat i) + (1 : Int32))), .val (.int (Int32.ofNat cs.length)), .val (.int (Int32.ofNat i)), .val (.int x)]) (1 : Int32) rfl d_cmpr_35 rfl rfl ?_
      refine Go.iinc (Ls' := #[.val (.ref ca), .val (.int ((Int32.ofNat i) + (1 : Int32))), .val (.ref da), .val (.int ((Int32.ofNat i) + (1 : Int32))), .val (.int (Int32.ofNat cs.length)), .val (.int ((Int32.ofNat i) + (1 : Int32))), .val (.int x)]) (1 : Int32) rfl d_cmpr_38 rfl rfl ?_
      rw [show ((Int32.ofNat i) + (1 : Int32)) = (Int32.ofNat (i + 1)) from (own_of1 _)]
      refine Go.goto 3 d_cmpr_41 (by decide) (by decide) ?_
      exact ih (i + 1) (B ++ [x.toInt8.toInt32]) _ h1 hd' (by simp only [List.length_cons] at hi; omega) (fun y hy => hQ y (by simp [hy])) (by rw [List.length_append, hB]; rfl) (One.val rfl) (KK.trans K1 (fun y hy => Or.inl hy)) V1
  exact loop P 0 [] _ h0 (by rw [hcs]; rfl) (by simp) hP rfl One.u (Keep.refl _ _) V_da
theorem d_tbu_0 : decode jdk_52_method_14_code 0 = .ok (.iload_n 2, 1) := by decide +kernel
theorem d_tbu_1 : decode jdk_52_method_14_code 1 = .ok (.invokestatic 107, 3) := by decide +kernel
theorem d_tbu_4 : decode jdk_52_method_14_code 4 = .ok (.astore_n 3, 1) := by decide +kernel
theorem d_tbu_5 : decode jdk_52_method_14_code 5 = .ok (.iconst 0, 1) := by decide +kernel
theorem d_tbu_6 : decode jdk_52_method_14_code 6 = .ok (.istore 4, 2) := by decide +kernel
theorem d_tbu_8 : decode jdk_52_method_14_code 8 = .ok (.iload 4, 2) := by decide +kernel
theorem d_tbu_10 : decode jdk_52_method_14_code 10 = .ok (.iload_n 2, 1) := by decide +kernel
theorem d_tbu_11 : decode jdk_52_method_14_code 11 = .ok (.if_icmp .ge 21, 3) := by decide +kernel
theorem d_tbu_14 : decode jdk_52_method_14_code 14 = .ok (.aload_n 3, 1) := by decide +kernel
theorem d_tbu_15 : decode jdk_52_method_14_code 15 = .ok (.iload 4, 2) := by decide +kernel
theorem d_tbu_17 : decode jdk_52_method_14_code 17 = .ok (.aload_n 0, 1) := by decide +kernel
theorem d_tbu_18 : decode jdk_52_method_14_code 18 = .ok (.iload_n 1, 1) := by decide +kernel
theorem d_tbu_19 : decode jdk_52_method_14_code 19 = .ok (.caload, 1) := by decide +kernel
theorem d_tbu_20 : decode jdk_52_method_14_code 20 = .ok (.invokestatic 111, 3) := by decide +kernel
theorem d_tbu_23 : decode jdk_52_method_14_code 23 = .ok (.iinc 1 1, 3) := by decide +kernel
theorem d_tbu_26 : decode jdk_52_method_14_code 26 = .ok (.iinc 4 1, 3) := by decide +kernel
theorem d_tbu_29 : decode jdk_52_method_14_code 29 = .ok (.goto (-21), 3) := by decide +kernel
theorem d_tbu_32 : decode jdk_52_method_14_code 32 = .ok (.aload_n 3, 1) := by decide +kernel
theorem d_tbu_33 : decode jdk_52_method_14_code 33 = .ok (.areturn, 1) := by decide +kernel
abbrev R_tbu : Room := ({ frames := 2, cells := 1, slots := 32, locals := 24 } : Room)
abbrev GM_tbu (l : Launch) (Z : State) (n0 : Nat) (Q : Option Value → Heap → Prop) (h : Heap) (cells slots pc : Nat) (Ls : Array Slot) (st : List Value) : Prop := Go l Z n0 R_tbu "java/lang/StringUTF16" "toBytes" jdk_52_method_14_code 5 (some (.array .byte)) IN (FN n0 R_tbu Q) h cells slots pc Ls st
abbrev GW_tbu (l : Launch) (Z : State) (EL : List (String × Nat)) (s₀ : State) (n0 : Nat) (Q : Option Value → Heap → Prop) (lo : Nat) (Sf : List Addr) (h : Heap) (cells slots pc : Nat) (Ls : Array Slot) (st : List Value) : Prop := Go l Z n0 R_tbu "java/lang/StringUTF16" "toBytes" jdk_52_method_14_code 5 (some (.array .byte)) (IW Z EL s₀ lo Sf) (FW Z EL s₀ n0 R_tbu Q) h cells slots pc Ls st
theorem pf_tbu : plainFor (⟨"java/lang/StringUTF16", "toBytes", "([CII)[B"⟩ : MethodName) = true := plainFor_of_name (by first | (simp [plainName, overriddenIn]; done) | decide +kernel)
set_option maxHeartbeats 2000000 in
theorem ct_tbu (l : Launch) (Z : State) (a0 : Array Value) (hw : ∀ d ∈ tables_1, d.before a0 Z = true) (n0 : Nat) (ca : Addr) (kc : ClassId) (cs : List Int32) (h0 : Heap) (hz : n0 ≤ h0.size) (O : Old Z n0 h0) (S_ad : Sta Z Z.heap "java/lang/StringUTF16" "$assertionsDisabled" "Z" (.int (1 : Int32))) (S_hi : Sta Z Z.heap "java/lang/StringUTF16" "HI_BYTE_SHIFT" "I" (.int (0 : Int32))) (S_lo : Sta Z Z.heap "java/lang/StringUTF16" "LO_BYTE_SHIFT" "I" (.int (8 : Int32))) (hn : cs.length ≤ 16) (V_ca : Arv Z h0 ca kc .char (Int32.ofNat cs.length) (cs.map Value.int) (.int (0 : Int32))) :
    Ct l Z n0 "java/lang/StringUTF16" "toBytes" "([CII)[B" [] jdk_52_method_14_code 5 (some (.array .byte)) R_tbu #[.ref ca, .int (0 : Int32), .int (Int32.ofNat cs.length)] h0 (fun v h => ∃ (b : Addr) (k : ClassId), v = some (.ref b) ∧ n0 ≤ b ∧ h0.size ≤ b ∧ Keep h0 h [] ∧ Arv Z h b k .byte (Int32.ofNat (2 * cs.length)) ((enc2 cs).map Value.int) (.int (0 : Int32))) := by
  have V_ca0 := V_ca
  refine Ct.of_go pf_tbu (Ls := #[.val (.ref ca), .val (.int (0 : Int32)), .val (.int (Int32.ofNat cs.length)), .unset, .unset]) (fun m => by first | rfl | (simp [entryFrame, mkF, argsToLocals, Value.category]; done)) ?_
  show GM_tbu l Z n0 (fun v h => ∃ (b : Addr) (k : ClassId), v = some (.ref b) ∧ n0 ≤ b ∧ h0.size ≤ b ∧ Keep h0 h [] ∧ Arv Z h b k .byte (Int32.ofNat (2 * cs.length)) ((enc2 cs).map Value.int) (.int (0 : Int32))) h0 0 0 0 #[.val (.ref ca), .val (.int (0 : Int32)), .val (.int (Int32.ofNat cs.length)), .unset, .unset] []
  have KK : Keep h0 h0 [] := Keep.refl _ _
  refine Go.iloadN d_tbu_0 rfl ?_
  -- at pc 1: pc 1: invokestatic .invokestatic 107 stack [(.int (Int32.ofNat cs.length))]
  refine Go.callS (I' := IN) (hI := nQ) [(.int (Int32.ofNat cs.length))] [] (ct_nbfor l Z a0 hw n0 cs.length hn _ hz) (wd_227 hw) (wd_228 hw) (wd_18 hw) (wd_229 hw) (by decide) pd_15 rfl rfl rfl (Nat.le_of_ble_eq_true rfl) (Nat.le_of_ble_eq_true rfl) (Nat.le_of_ble_eq_true rfl) (Nat.le_of_ble_eq_true rfl) d_tbu_1 ?_
  rintro _ hp31 ⟨b, kb, rfl, g_b, s_b, K31, V_b⟩
  replace O := O.keep K31 (all0)
  replace hz : n0 ≤ hp31.size := Nat.le_trans hz K31.1
  replace KK : Keep h0 hp31 [] := KK.trans K31 (all0)
  show GM_tbu l Z n0 (fun v h => ∃ (b : Addr) (k : ClassId), v = some (.ref b) ∧ n0 ≤ b ∧ h0.size ≤ b ∧ Keep h0 h [] ∧ Arv Z h b k .byte (Int32.ofNat (2 * cs.length)) ((enc2 cs).map Value.int) (.int (0 : Int32))) hp31 1 32 4 #[.val (.ref ca), .val (.int (0 : Int32)), .val (.int (Int32.ofNat cs.length)), .unset, .unset] [(.ref b)]
  refine Go.astoreN (Ls' := #[.val (.ref ca), .val (.int (0 : Int32)), .val (.int (Int32.ofNat cs.length)), .val (.ref b), .unset]) d_tbu_4 rfl rfl ?_
  refine Go.iconst 0 d_tbu_5 rfl ?_
  refine Go.istore (Ls' := #[.val (.ref ca), .val (.int (0 : Int32)), .val (.int (Int32.ofNat cs.length)), .val (.ref b), .val (.int (0 : Int32))]) d_tbu_6 rfl ?_
  have loop : ∀ (Q : List Int32) (i : Nat) (h : Heap), cs.drop i = Q → i + Q.length = cs.length → n0 ≤ h.size → Old Z n0 h → Keep h0 h [] → Arv Z h b kb .byte (Int32.ofNat (2 * cs.length)) ((enc2 (cs.take i)).map Value.int) (.int (0 : Int32)) → GM_tbu l Z n0 (fun v h => ∃ (b : Addr) (k : ClassId), v = some (.ref b) ∧ n0 ≤ b ∧ h0.size ≤ b ∧ Keep h0 h [] ∧ Arv Z h b k .byte (Int32.ofNat (2 * cs.length)) ((enc2 cs).map Value.int) (.int (0 : Int32))) h 1 32 8 #[.val (.ref ca), .val (.int (Int32.ofNat i)), .val (.int (Int32.ofNat cs.length)), .val (.ref b), .val (.int (Int32.ofNat i))] [] := by
    clear V_b KK O hz
    intro Q
    induction Q with
    | nil =>
      intro i h hd hi hz O KK V_b
      have hie : i = cs.length := by simpa using hi
      refine Go.iload d_tbu_8 rfl ?_
      refine Go.iloadN d_tbu_10 rfl ?_
      -- at pc 11: pc 11: if_icmp .if_icmp .ge 21 stack [(.int (Int32.ofNat cs.length)), (.int (Int32.ofNat i))]
      -- not: (Int32.ofNat i) < (Int32.ofNat cs.length)
      refine Go.icT 32 d_tbu_11 (flt ((by rw [hie]; exact own_irr _))).2.1 (by decide) (by decide) ?_
      refine Go.aloadN d_tbu_32 rfl rfl ?_
      -- at pc 33: pc 33: areturn .areturn stack [(.ref b)]
      exact Go.areturn d_tbu_33 rfl rfl rfl (by decide) (by decide) ⟨b, kb, rfl, g_b, s_b, KK, by rw [hie, List.take_length] at V_b; exact V_b⟩
    | cons x Q ih =>
      intro i h hd hi hz O KK V_b
      have V_ca := V_ca0.keep KK nin0
      have hci : cs[i]? = some x := by
        have := congrArg (fun L => L[0]?) hd
        simpa using this
      have hil : i < cs.length := (List.getElem?_eq_some_iff.mp hci).1
      have hd' : cs.drop (i + 1) = Q := by rw [← List.drop_drop, hd]; rfl
      have htl : (cs.take i).length = i := by rw [List.length_take]; omega
      refine Go.iload d_tbu_8 rfl ?_
      refine Go.iloadN d_tbu_10 rfl ?_
      -- at pc 11: pc 11: if_icmp .if_icmp .ge 21 stack [(.int (Int32.ofNat cs.length)), (.int (Int32.ofNat i))]
      -- (Int32.ofNat i) < (Int32.ofNat cs.length)
      refine Go.icF d_tbu_11 (tlt ((own_idx hil (by omega)).2)).2.1 ?_
      refine Go.aloadN d_tbu_14 rfl rfl ?_
      refine Go.iload d_tbu_15 rfl ?_
      refine Go.aloadN d_tbu_17 rfl rfl ?_
      refine Go.iloadN d_tbu_18 rfl ?_
      -- at pc 19: pc 19: caload of ca at (Int32.ofNat i): '!aload value ; bounds ; getD'
      refine Go.caload (.int x) V_ca (own_idx hil (by omega)) (by rw [own_clamp (by omega), List.getD_eq_getElem?_getD, List.getElem?_map, hci]; rfl) d_tbu_19 ?_
      refine Go.callS (I' := IN) (hI := nQ) [(.ref b), (.int (Int32.ofNat i)), (.int x)] [] (ct_putc l Z a0 hw n0 b kb (cs.take i) x cs.length (Int32.ofNat i) _ O S_ad S_hi S_lo (by rw [htl]) g_b (by omega) (by omega) V_b) (wd_234 hw) (wd_235 hw) (wd_18 hw) (wd_236 hw) (by decide) pd_16 rfl rfl rfl (Nat.le_of_ble_eq_true rfl) (Nat.le_of_ble_eq_true rfl) (Nat.le_of_ble_eq_true rfl) (Nat.le_of_ble_eq_true rfl) d_tbu_20 ?_
      rintro _ hp32 ⟨rfl, K32, V1⟩
      replace O := O.keep K32 (allS g_b (all0))
      replace hz : n0 ≤ hp32.size := Nat.le_trans hz K32.1
      replace KK : Keep h0 hp32 [] := KK.trans K32 (allS (Or.inr s_b) (all0))
      show GM_tbu l Z n0 (fun v h => ∃ (b : Addr) (k : ClassId), v = some (.ref b) ∧ n0 ≤ b ∧ h0.size ≤ b ∧ Keep h0 h [] ∧ Arv Z h b k .byte (Int32.ofNat (2 * cs.length)) ((enc2 cs).map Value.int) (.int (0 : Int32))) hp32 1 32 23 #[.val (.ref ca), .val (.int (Int32.ofNat i)), .val (.int (Int32.ofNat cs.length)), .val (.ref b), .val (.int (Int32.ofNat i))] []
      refine Go.iinc (Ls' := #[.val (.ref ca), .val (.int ((Int32.ofNat i) + (1 : Int32))), .val (.int (Int32.ofNat cs.length)), .val (.ref b), .val (.int (Int32.ofNat i))]) (1 : Int32) rfl d_tbu_23 rfl rfl ?_
      refine Go.iinc (Ls' := #[.val (.ref ca), .val (.int ((Int32.ofNat i) + (1 : Int32))), .val (.int (Int32.ofNat cs.length)), .val (.ref b), .val (.int ((Int32.ofNat i) + (1 : Int32)))]) (1 : Int32) rfl d_tbu_26 rfl rfl ?_
      rw [show ((Int32.ofNat i) + (1 : Int32)) = (Int32.ofNat (i + 1)) from (own_of1 _)]
      refine Go.goto 8 d_tbu_29 (by decide) (by decide) ?_
      exact ih (i + 1) _ hd' (by simp only [List.length_cons] at hi; omega) hz O KK (by rw [List.take_add_one, hci]; exact V1)
  exact loop cs 0 _ rfl (by simp) hz O KK V_b
theorem enc2_at : ∀ (cs : List Int32) (j : Nat) (c : Int32), cs[j]? = some c → (enc2 cs)[2 * j]? = some (own_b c) ∧ (enc2 cs)[2 * j + 1]? = some (own_hb c)
  | [], _, _, h => by simp at h
  | x :: r, 0, c, h => by
    obtain rfl : x = c := by simpa using h
    exact ⟨rfl, rfl⟩
  | x :: r, j + 1, c, h => by
    have h' : r[j]? = some c := by simpa using h
    have := enc2_at r j c h'
    rw [show 2 * (j + 1) = 2 * j + 1 + 1 by omega]
    exact ⟨this.1, this.2⟩
theorem own_gcc {c : Int32} (h0 : 0 ≤ c.toInt) (h1 : c.toInt < 65536) : nar .char (own_gc (own_b c) (own_hb c)) = c := by
  have a1 := c_mask (own_b c) 255 8 (by decide) (by decide)
  have a2 := c_mask (own_hb c) 255 8 (by decide) (by decide)
  have a3 : ((own_b c).toInt - c.toInt) % 256 = 0 := (c_i2b c).1
  have a4 : ((own_hb c).toInt - (c >>> ((8 : Int32) &&& 31)).toInt) % 256 = 0 := (c_i2b (c >>> ((8 : Int32) &&& 31))).1
  have a5 := c_ishr c 8 8 (by decide)
  have a6 := c_ishl (own_hb c &&& 255) 8 8 (by decide)
  simp only [Nat.reducePow] at a1 a2 a5 a6
  have r6 := rng32 ((own_hb c &&& 255) <<< ((8 : Int32) &&& 31))
  have a7 : ((own_hb c &&& 255) <<< ((8 : Int32) &&& 31)).toInt = (own_hb c &&& 255).toInt * 256 := by omega
  have a8 := c_or' (own_b c &&& 255) ((own_hb c &&& 255) <<< ((8 : Int32) &&& 31)) 8 (by decide) 256 rfl (by omega) (by omega) (by omega)
  have e : (own_b c &&& 255) <<< ((0 : Int32) &&& 31) = own_b c &&& 255 := own_shl0 _
  show ((((own_b c &&& (255 : Int32)) <<< ((0 : Int32) &&& 31)) ||| ((own_hb c &&& (255 : Int32)) <<< ((8 : Int32) &&& 31))).toUInt32.toUInt16.toUInt32.toInt32).toUInt32.toUInt16.toUInt32.toInt32 = c
  rw [e]
  have b1 := c_i2c ((own_b c &&& 255) ||| ((own_hb c &&& 255) <<< ((8 : Int32) &&& 31)))
  have b2 := c_i2c ((own_b c &&& 255) ||| ((own_hb c &&& 255) <<< ((8 : Int32) &&& 31))).toUInt32.toUInt16.toUInt32.toInt32
  apply Int32.toInt_inj.mp
  omega
theorem own_eqn {n m : Nat} (h1 : n < 2 ^ 31) (h2 : m < 2 ^ 31) : Int32.ofNat n = Int32.ofNat m ↔ n = m := ⟨fun q => by have := congrArg Int32.toInt q; rw [own_ofInt h1, own_ofInt h2] at this; omega, fun q => by rw [q]⟩
theorem own_c31 {n : Nat} (h1 : 1 ≤ n) (h2 : n ≤ 16) : ((((Int32.ofNat n) - (Int32.ofNat (2 * n))).toUInt32 >>> ((31 : Int32) &&& 31).toUInt32).toInt32).toInt8.toInt32 = 1 := by
  have h := c_iushr ((Int32.ofNat n) - (Int32.ofNat (2 * n))) 31 31 (by decide) (by decide)
  have s := c_isub (Int32.ofNat n) (Int32.ofNat (2 * n))
  have r := rng32 ((Int32.ofNat n) - (Int32.ofNat (2 * n)))
  rw [own_ofInt (by omega), own_ofInt (by omega)] at s
  simp only [Nat.reducePow] at h
  have q := c_i2b (((((Int32.ofNat n) - (Int32.ofNat (2 * n))).toUInt32 >>> ((31 : Int32) &&& 31).toUInt32).toInt32))
  apply Int32.toInt_inj.mp
  have e : (1 : Int32).toInt = 1 := rfl
  omega
theorem d_cfal_0 : decode jdk_52_method_15_code 0 = .ok (.iload_n 1, 1) := by decide +kernel
theorem d_cfal_1 : decode jdk_52_method_15_code 1 = .ok (.aload_n 0, 1) := by decide +kernel
theorem d_cfal_2 : decode jdk_52_method_15_code 2 = .ok (.arraylength, 1) := by decide +kernel
theorem d_cfal_3 : decode jdk_52_method_15_code 3 = .ok (.isub, 1) := by decide +kernel
theorem d_cfal_4 : decode jdk_52_method_15_code 4 = .ok (.bipush 31, 2) := by decide +kernel
theorem d_cfal_6 : decode jdk_52_method_15_code 6 = .ok (.iushr, 1) := by decide +kernel
theorem d_cfal_7 : decode jdk_52_method_15_code 7 = .ok (.i2b, 1) := by decide +kernel
theorem d_cfal_8 : decode jdk_52_method_15_code 8 = .ok (.ireturn, 1) := by decide +kernel
abbrev R_cfal : Room := ({ frames := 0, cells := 0, slots := 0, locals := 0 } : Room)
abbrev GM_cfal (l : Launch) (Z : State) (n0 : Nat) (Q : Option Value → Heap → Prop) (h : Heap) (cells slots pc : Nat) (Ls : Array Slot) (st : List Value) : Prop := Go l Z n0 R_cfal "java/lang/StringUTF16" "coderFromArrayLen" jdk_52_method_15_code 2 (some .byte) IN (FN n0 R_cfal Q) h cells slots pc Ls st
abbrev GW_cfal (l : Launch) (Z : State) (EL : List (String × Nat)) (s₀ : State) (n0 : Nat) (Q : Option Value → Heap → Prop) (lo : Nat) (Sf : List Addr) (h : Heap) (cells slots pc : Nat) (Ls : Array Slot) (st : List Value) : Prop := Go l Z n0 R_cfal "java/lang/StringUTF16" "coderFromArrayLen" jdk_52_method_15_code 2 (some .byte) (IW Z EL s₀ lo Sf) (FW Z EL s₀ n0 R_cfal Q) h cells slots pc Ls st
theorem pf_cfal : plainFor (⟨"java/lang/StringUTF16", "coderFromArrayLen", "([BI)B"⟩ : MethodName) = true := plainFor_of_name (by first | (simp [plainName, overriddenIn]; done) | decide +kernel)
theorem ct_cfal (l : Launch) (Z : State) (a0 : Array Value) (hw : ∀ d ∈ tables_1, d.before a0 Z = true) (n0 : Nat) (b : Addr) (kb : ClassId) (n : Nat) (vs : List Value) (dv : Value) (h0 : Heap) (h1 : 1 ≤ n) (h2 : n ≤ 16) (V_b : Arv Z h0 b kb .byte (Int32.ofNat (2 * n)) vs dv) : Ct l Z n0 "java/lang/StringUTF16" "coderFromArrayLen" "([BI)B" [] jdk_52_method_15_code 2 (some .byte) R_cfal #[.ref b, .int (Int32.ofNat n)] h0 (fun v h => v = some (.int (1 : Int32)) ∧ h0 = h) := by
  refine Ct.of_go pf_cfal (Ls := #[.val (.ref b), .val (.int (Int32.ofNat n))]) (fun m => by first | rfl | (simp [entryFrame, mkF, argsToLocals, Value.category]; done)) ?_
  show GM_cfal l Z n0 (fun v h => v = some (.int (1 : Int32)) ∧ h0 = h) h0 0 0 0 #[.val (.ref b), .val (.int (Int32.ofNat n))] []
  refine Go.iloadN d_cfal_0 rfl ?_
  refine Go.aloadN d_cfal_1 rfl rfl ?_
  refine Go.arraylength V_b d_cfal_2 ?_
  refine Go.isub d_cfal_3 ?_
  refine Go.bipush 31 d_cfal_4 rfl ?_
  refine Go.iushr d_cfal_6 ?_
  refine Go.i2b d_cfal_7 ?_
  rw [own_c31 h1 h2]
  exact Go.nreturn .byte d_cfal_8 rfl (by simp) (by decide) (by decide) ⟨rfl, rfl⟩
theorem d_cmp2_0 : decode jdk_52_method_16_code 0 = .ok (.iload_n 2, 1) := by decide +kernel
theorem d_cmp2_1 : decode jdk_52_method_16_code 1 = .ok (.newarray .byte, 2) := by decide +kernel
theorem d_cmp2_3 : decode jdk_52_method_16_code 3 = .ok (.astore_n 3, 1) := by decide +kernel
theorem d_cmp2_4 : decode jdk_52_method_16_code 4 = .ok (.aload_n 0, 1) := by decide +kernel
theorem d_cmp2_5 : decode jdk_52_method_16_code 5 = .ok (.iload_n 1, 1) := by decide +kernel
theorem d_cmp2_6 : decode jdk_52_method_16_code 6 = .ok (.aload_n 3, 1) := by decide +kernel
theorem d_cmp2_7 : decode jdk_52_method_16_code 7 = .ok (.iconst 0, 1) := by decide +kernel
theorem d_cmp2_8 : decode jdk_52_method_16_code 8 = .ok (.iload_n 2, 1) := by decide +kernel
theorem d_cmp2_9 : decode jdk_52_method_16_code 9 = .ok (.invokestatic 115, 3) := by decide +kernel
theorem d_cmp2_12 : decode jdk_52_method_16_code 12 = .ok (.istore 4, 2) := by decide +kernel
theorem d_cmp2_14 : decode jdk_52_method_16_code 14 = .ok (.iload 4, 2) := by decide +kernel
theorem d_cmp2_16 : decode jdk_52_method_16_code 16 = .ok (.iload_n 2, 1) := by decide +kernel
theorem d_cmp2_17 : decode jdk_52_method_16_code 17 = .ok (.if_icmp .eq 40, 3) := by decide +kernel
theorem d_cmp2_20 : decode jdk_52_method_16_code 20 = .ok (.aload_n 0, 1) := by decide +kernel
theorem d_cmp2_21 : decode jdk_52_method_16_code 21 = .ok (.iload_n 1, 1) := by decide +kernel
theorem d_cmp2_22 : decode jdk_52_method_16_code 22 = .ok (.iload_n 2, 1) := by decide +kernel
theorem d_cmp2_23 : decode jdk_52_method_16_code 23 = .ok (.invokestatic 119, 3) := by decide +kernel
theorem d_cmp2_26 : decode jdk_52_method_16_code 26 = .ok (.astore 5, 2) := by decide +kernel
theorem d_cmp2_28 : decode jdk_52_method_16_code 28 = .ok (.aload 5, 2) := by decide +kernel
theorem d_cmp2_30 : decode jdk_52_method_16_code 30 = .ok (.iload 4, 2) := by decide +kernel
theorem d_cmp2_32 : decode jdk_52_method_16_code 32 = .ok (.invokestatic 71, 3) := by decide +kernel
theorem d_cmp2_35 : decode jdk_52_method_16_code 35 = .ok (.sipush 255, 3) := by decide +kernel
theorem d_cmp2_38 : decode jdk_52_method_16_code 38 = .ok (.if_icmp .gt 16, 3) := by decide +kernel
theorem d_cmp2_54 : decode jdk_52_method_16_code 54 = .ok (.aload 5, 2) := by decide +kernel
theorem d_cmp2_56 : decode jdk_52_method_16_code 56 = .ok (.areturn, 1) := by decide +kernel
theorem d_cmp2_57 : decode jdk_52_method_16_code 57 = .ok (.aload_n 3, 1) := by decide +kernel
theorem d_cmp2_58 : decode jdk_52_method_16_code 58 = .ok (.areturn, 1) := by decide +kernel
abbrev R_cmp2 : Room := ({ frames := 3, cells := 2, slots := 48, locals := 42 } : Room)
abbrev GM_cmp2 (l : Launch) (Z : State) (n0 : Nat) (Q : Option Value → Heap → Prop) (h : Heap) (cells slots pc : Nat) (Ls : Array Slot) (st : List Value) : Prop := Go l Z n0 R_cmp2 "java/lang/StringUTF16" "compress" jdk_52_method_16_code 6 (some (.array .byte)) IN (FN n0 R_cmp2 Q) h cells slots pc Ls st
abbrev GW_cmp2 (l : Launch) (Z : State) (EL : List (String × Nat)) (s₀ : State) (n0 : Nat) (Q : Option Value → Heap → Prop) (lo : Nat) (Sf : List Addr) (h : Heap) (cells slots pc : Nat) (Ls : Array Slot) (st : List Value) : Prop := Go l Z n0 R_cmp2 "java/lang/StringUTF16" "compress" jdk_52_method_16_code 6 (some (.array .byte)) (IW Z EL s₀ lo Sf) (FW Z EL s₀ n0 R_cmp2 Q) h cells slots pc Ls st
theorem pf_cmp2 : plainFor (⟨"java/lang/StringUTF16", "compress", "([CII)[B"⟩ : MethodName) = true := plainFor_of_name (by first | (simp [plainName, overriddenIn]; done) | decide +kernel)
set_option maxHeartbeats 1000000 in
theorem ct_cmp2 (l : Launch) (Z : State) (a0 : Array Value) (hw : ∀ d ∈ tables_1, d.before a0 Z = true) (n0 : Nat) (ca : Addr) (kc : ClassId) (cs P R : List Int32) (c : Int32) (h0 : Heap) (hz : n0 ≤ h0.size) (O : Old Z n0 h0) (S_ad : Sta Z Z.heap "java/lang/StringUTF16" "$assertionsDisabled" "Z" (.int (1 : Int32))) (S_hi : Sta Z Z.heap "java/lang/StringUTF16" "HI_BYTE_SHIFT" "I" (.int (0 : Int32))) (S_lo : Sta Z Z.heap "java/lang/StringUTF16" "LO_BYTE_SHIFT" "I" (.int (8 : Int32))) (hcs' : cs = P ++ c :: R) (hn : cs.length ≤ 16) (hP : ∀ x ∈ P, ¬ (255 : Int32) < x) (hc : (255 : Int32) < c) (u0 : 0 ≤ c.toInt) (u1 : c.toInt < 65536) (V_ca : Arv Z h0 ca kc .char (Int32.ofNat cs.length) (cs.map Value.int) (.int (0 : Int32))) :
    Ct l Z n0 "java/lang/StringUTF16" "compress" "([CII)[B" [] jdk_52_method_16_code 6 (some (.array .byte)) R_cmp2 #[.ref ca, .int (0 : Int32), .int (Int32.ofNat cs.length)] h0 (fun v h => ∃ (b : Addr) (k : ClassId), v = some (.ref b) ∧ n0 ≤ b ∧ h0.size ≤ b ∧ Keep h0 h [] ∧ Arv Z h b k .byte (Int32.ofNat (2 * cs.length)) ((enc2 cs).map Value.int) (.int (0 : Int32))) := by
  have hPl : P.length < cs.length := by rw [hcs', List.length_append, List.length_cons]; omega
  have hat : cs[P.length]? = some c := by rw [hcs', List.getElem?_append_right (Nat.le_refl _)]; simp
  refine Ct.of_go pf_cmp2 (Ls := #[.val (.ref ca), .val (.int (0 : Int32)), .val (.int (Int32.ofNat cs.length)), .unset, .unset, .unset]) (fun m => by first | rfl | (simp [entryFrame, mkF, argsToLocals, Value.category]; done)) ?_
  show GM_cmp2 l Z n0 (fun v h => ∃ (b : Addr) (k : ClassId), v = some (.ref b) ∧ n0 ≤ b ∧ h0.size ≤ b ∧ Keep h0 h [] ∧ Arv Z h b k .byte (Int32.ofNat (2 * cs.length)) ((enc2 cs).map Value.int) (.int (0 : Int32))) h0 0 0 0 #[.val (.ref ca), .val (.int (0 : Int32)), .val (.int (Int32.ofNat cs.length)), .unset, .unset, .unset] []
  have KK : Keep h0 h0 [] := Keep.refl _ _
  refine Go.iloadN d_cmp2_0 rfl ?_
  -- at pc 1: pc 1: newarray .newarray .byte stack [(.int (Int32.ofNat cs.length))]
  refine Go.newP (I' := IN) (hI := nE) .byte (wd_20 hw) rfl d_cmp2_1 (own_nneg (by omega)) 16 (by rw [own_clamp (by omega)]; omega) (by decide) (by decide) (by decide) fun hp33 da k_da e_da X33 V_da => ?_
  have K33 : Keep h0 hp33 [] := (Keep.refl _ _).ext X33
  have g_da : n0 ≤ da := e_da ▸ hz
  have s_da : h0.size ≤ da := e_da ▸ KK.1
  have ne_ca_da : ca ≠ da := Nat.ne_of_lt (e_da ▸ V_ca.lt)
  replace O := O.keep K33 (all0)
  replace V_ca := V_ca.keep K33 nin0
  replace hz : n0 ≤ hp33.size := Nat.le_trans hz K33.1
  replace KK : Keep h0 hp33 [] := KK.trans K33 (all0)
  refine Go.astoreN (Ls' := #[.val (.ref ca), .val (.int (0 : Int32)), .val (.int (Int32.ofNat cs.length)), .val (.ref da), .unset, .unset]) d_cmp2_3 rfl rfl ?_
  refine Go.aloadN d_cmp2_4 rfl rfl ?_
  refine Go.iloadN d_cmp2_5 rfl ?_
  refine Go.aloadN d_cmp2_6 rfl rfl ?_
  refine Go.iconst 0 d_cmp2_7 rfl ?_
  refine Go.iloadN d_cmp2_8 rfl ?_
  -- at pc 9: pc 9: invokestatic .invokestatic 115 stack [(.int (Int32.ofNat cs.length)), (.int (0 : Int32)), (.ref da), (.int (0 : Int32)), (.ref ca)]
  refine Go.callS (I' := IN) (hI := nQ) [(.ref ca), (.int (0 : Int32)), (.ref da), (.int (0 : Int32)), (.int (Int32.ofNat cs.length))] [] (ct_cmpr l Z a0 hw n0 ca da kc k_da cs P R c _ hcs' hn hP hc g_da ne_ca_da V_ca V_da) (wd_21 hw) (wd_22 hw) (wd_18 hw) (wd_23 hw) (by decide) pd_17 rfl rfl rfl (Nat.le_of_ble_eq_true rfl) (Nat.le_of_ble_eq_true rfl) (Nat.le_of_ble_eq_true rfl) (Nat.le_of_ble_eq_true rfl) d_cmp2_9 ?_
  rintro _ hp34 ⟨rfl, K34⟩
  replace O := O.keep K34 (allS g_da (all0))
  replace V_ca := V_ca.keep K34 (ninS ne_ca_da nin0)
  replace hz : n0 ≤ hp34.size := Nat.le_trans hz K34.1
  replace KK : Keep h0 hp34 [] := KK.trans K34 (allS (Or.inr s_da) (all0))
  show GM_cmp2 l Z n0 (fun v h => ∃ (b : Addr) (k : ClassId), v = some (.ref b) ∧ n0 ≤ b ∧ h0.size ≤ b ∧ Keep h0 h [] ∧ Arv Z h b k .byte (Int32.ofNat (2 * cs.length)) ((enc2 cs).map Value.int) (.int (0 : Int32))) hp34 1 16 12 #[.val (.ref ca), .val (.int (0 : Int32)), .val (.int (Int32.ofNat cs.length)), .val (.ref da), .unset, .unset] [(.int (Int32.ofNat P.length))]
  refine Go.istore (Ls' := #[.val (.ref ca), .val (.int (0 : Int32)), .val (.int (Int32.ofNat cs.length)), .val (.ref da), .val (.int (Int32.ofNat P.length)), .unset]) d_cmp2_12 rfl ?_
  refine Go.iload d_cmp2_14 rfl ?_
  refine Go.iloadN d_cmp2_16 rfl ?_
  -- at pc 17: pc 17: if_icmp .if_icmp .eq 40 stack [(.int (Int32.ofNat cs.length)), (.int (Int32.ofNat P.length))]
  -- not: (Int32.ofNat P.length) = (Int32.ofNat cs.length)
  refine Go.icF d_cmp2_17 (feq ((fun q => Nat.ne_of_lt hPl ((own_eqn (by omega) (by omega)).mp q)))).1 ?_
  refine Go.aloadN d_cmp2_20 rfl rfl ?_
  refine Go.iloadN d_cmp2_21 rfl ?_
  refine Go.iloadN d_cmp2_22 rfl ?_
  -- at pc 23: pc 23: invokestatic .invokestatic 119 stack [(.int (Int32.ofNat cs.length)), (.int (0 : Int32)), (.ref ca)]
  have KKA := KK
  refine Go.callS (I' := IN) (hI := nQ) [(.ref ca), (.int (0 : Int32)), (.int (Int32.ofNat cs.length))] [] (ct_tbu l Z a0 hw n0 ca kc cs _ hz O S_ad S_hi S_lo hn V_ca) (wd_224 hw) (wd_225 hw) (wd_18 hw) (wd_226 hw) (by decide) pd_18 rfl rfl rfl (Nat.le_of_ble_eq_true rfl) (Nat.le_of_ble_eq_true rfl) (Nat.le_of_ble_eq_true rfl) (Nat.le_of_ble_eq_true rfl) d_cmp2_23 ?_
  rintro _ hp35 ⟨b, kb, rfl, g_b, sz_b, K35, V_b⟩
  replace O := O.keep K35 (all0)
  replace V_ca := V_ca.keep K35 nin0
  replace hz : n0 ≤ hp35.size := Nat.le_trans hz K35.1
  replace KK : Keep h0 hp35 [] := KK.trans K35 (all0)
  show GM_cmp2 l Z n0 (fun v h => ∃ (b : Addr) (k : ClassId), v = some (.ref b) ∧ n0 ≤ b ∧ h0.size ≤ b ∧ Keep h0 h [] ∧ Arv Z h b k .byte (Int32.ofNat (2 * cs.length)) ((enc2 cs).map Value.int) (.int (0 : Int32))) hp35 2 48 26 #[.val (.ref ca), .val (.int (0 : Int32)), .val (.int (Int32.ofNat cs.length)), .val (.ref da), .val (.int (Int32.ofNat P.length)), .unset] [(.ref b)]
  have s_b : h0.size ≤ b := Nat.le_trans KKA.1 sz_b
  refine Go.astore (Ls' := #[.val (.ref ca), .val (.int (0 : Int32)), .val (.int (Int32.ofNat cs.length)), .val (.ref da), .val (.int (Int32.ofNat P.length)), .val (.ref b)]) d_cmp2_26 rfl rfl ?_
  refine Go.aload d_cmp2_28 rfl rfl ?_
  refine Go.iload d_cmp2_30 rfl ?_
  -- at pc 32: pc 32: invokestatic .invokestatic 71 stack [(.int (Int32.ofNat P.length)), (.ref b)]
  refine Go.callS (I' := IN) (hI := nQ) [(.ref b), (.int (Int32.ofNat P.length))] [] (ct_getc l Z a0 hw n0 b kb (enc2 cs) P.length (own_b c) (own_hb c) (2 * cs.length) _ O S_ad S_hi S_lo (by omega) (by omega) (enc2_at cs _ c hat).1 (enc2_at cs _ c hat).2 V_b) (wd_240 hw) (wd_241 hw) (wd_18 hw) (wd_242 hw) (by decide) pd_19 rfl rfl rfl (Nat.le_of_ble_eq_true rfl) (Nat.le_of_ble_eq_true rfl) (Nat.le_of_ble_eq_true rfl) (Nat.le_of_ble_eq_true rfl) d_cmp2_32 ?_
  rintro _ _ ⟨rfl, rfl⟩
  show GM_cmp2 l Z n0 (fun v h => ∃ (b : Addr) (k : ClassId), v = some (.ref b) ∧ n0 ≤ b ∧ h0.size ≤ b ∧ Keep h0 h [] ∧ Arv Z h b k .byte (Int32.ofNat (2 * cs.length)) ((enc2 cs).map Value.int) (.int (0 : Int32))) hp35 2 48 35 #[.val (.ref ca), .val (.int (0 : Int32)), .val (.int (Int32.ofNat cs.length)), .val (.ref da), .val (.int (Int32.ofNat P.length)), .val (.ref b)] [(.int (nar .char (own_gc (own_b c) (own_hb c))))]
  rw [show (nar .char (own_gc (own_b c) (own_hb c))) = c from (own_gcc u0 u1)]
  refine Go.sipush 255 d_cmp2_35 rfl ?_
  -- at pc 38: pc 38: if_icmp .if_icmp .gt 16 stack [(.int (255 : Int32)), (.int c)]
  -- (255 : Int32) < c
  refine Go.icT 54 d_cmp2_38 (tlt (hc)).2.2.1 (by decide) (by decide) ?_
  refine Go.aload d_cmp2_54 rfl rfl ?_
  -- at pc 56: pc 56: areturn .areturn stack [(.ref b)]
  exact Go.areturn d_cmp2_56 rfl rfl rfl (by decide) (by decide) ⟨b, kb, rfl, g_b, s_b, KK, V_b⟩
/-- a String of two bytes a char -/
def Byu (Z : State) (h : Heap) (x t : Addr) (kb : ClassId) (cs : List Int32) : Prop := Exa Z h x "java/lang/String" ∧ Fld Z h x "java/lang/String" "coder" "B" (.int (1 : Int32)) ∧ Fld Z h x "java/lang/String" "value" "[B" (.ref t) ∧ Arv Z h t kb .byte (Int32.ofNat (2 * cs.length)) ((enc2 cs).map Value.int) (.int (0 : Int32))
theorem d_si4u_0 : decode jdk_42_method_149_code 0 = .ok (.aload_n 0, 1) := by decide +kernel
theorem d_si4u_1 : decode jdk_42_method_149_code 1 = .ok (.invokespecial 1, 3) := by decide +kernel
theorem d_si4u_4 : decode jdk_42_method_149_code 4 = .ok (.iload_n 3, 1) := by decide +kernel
theorem d_si4u_5 : decode jdk_42_method_149_code 5 = .ok (.ifCond .ne 22, 3) := by decide +kernel
theorem d_si4u_27 : decode jdk_42_method_149_code 27 = .ok (.getstatic 38, 3) := by decide +kernel
theorem d_si4u_30 : decode jdk_42_method_149_code 30 = .ok (.ifCond .eq 28, 3) := by decide +kernel
theorem d_si4u_33 : decode jdk_42_method_149_code 33 = .ok (.aload_n 1, 1) := by decide +kernel
theorem d_si4u_34 : decode jdk_42_method_149_code 34 = .ok (.iload_n 2, 1) := by decide +kernel
theorem d_si4u_35 : decode jdk_42_method_149_code 35 = .ok (.iload_n 3, 1) := by decide +kernel
theorem d_si4u_36 : decode jdk_42_method_149_code 36 = .ok (.invokestatic 177, 3) := by decide +kernel
theorem d_si4u_39 : decode jdk_42_method_149_code 39 = .ok (.astore 5, 2) := by decide +kernel
theorem d_si4u_41 : decode jdk_42_method_149_code 41 = .ok (.aload_n 0, 1) := by decide +kernel
theorem d_si4u_42 : decode jdk_42_method_149_code 42 = .ok (.aload 5, 2) := by decide +kernel
theorem d_si4u_44 : decode jdk_42_method_149_code 44 = .ok (.iload_n 3, 1) := by decide +kernel
theorem d_si4u_45 : decode jdk_42_method_149_code 45 = .ok (.invokestatic 47, 3) := by decide +kernel
theorem d_si4u_48 : decode jdk_42_method_149_code 48 = .ok (.putfield 15, 3) := by decide +kernel
theorem d_si4u_51 : decode jdk_42_method_149_code 51 = .ok (.aload_n 0, 1) := by decide +kernel
theorem d_si4u_52 : decode jdk_42_method_149_code 52 = .ok (.aload 5, 2) := by decide +kernel
theorem d_si4u_54 : decode jdk_42_method_149_code 54 = .ok (.putfield 9, 3) := by decide +kernel
theorem d_si4u_57 : decode jdk_42_method_149_code 57 = .ok (.return_, 1) := by decide +kernel
abbrev R_si4u : Room := ({ frames := 4, cells := 2, slots := 48, locals := 62 } : Room)
abbrev GM_si4u (l : Launch) (Z : State) (n0 : Nat) (Q : Option Value → Heap → Prop) (h : Heap) (cells slots pc : Nat) (Ls : Array Slot) (st : List Value) : Prop := Go l Z n0 R_si4u "java/lang/String" "<init>" jdk_42_method_149_code 6 none IN (FN n0 R_si4u Q) h cells slots pc Ls st
abbrev GW_si4u (l : Launch) (Z : State) (EL : List (String × Nat)) (s₀ : State) (n0 : Nat) (Q : Option Value → Heap → Prop) (lo : Nat) (Sf : List Addr) (h : Heap) (cells slots pc : Nat) (Ls : Array Slot) (st : List Value) : Prop := Go l Z n0 R_si4u "java/lang/String" "<init>" jdk_42_method_149_code 6 none (IW Z EL s₀ lo Sf) (FW Z EL s₀ n0 R_si4u Q) h cells slots pc Ls st
theorem pf_si4u : plainFor (⟨"java/lang/String", "<init>", "([CIILjava/lang/Void;)V"⟩ : MethodName) = true := plainFor_of_name (by first | (simp [plainName, overriddenIn]; done) | decide +kernel)
set_option maxHeartbeats 1000000 in
theorem ct_si4u (l : Launch) (Z : State) (a0 : Array Value) (hw : ∀ d ∈ tables_1, d.before a0 Z = true) (n0 : Nat) (x ca : Addr) (kc : ClassId) (cs P R : List Int32) (c : Int32) (h0 : Heap) (hz : n0 ≤ h0.size) (O : Old Z n0 h0) (z : Int32) (S_cs : Sta Z Z.heap "java/lang/String" "COMPACT_STRINGS" "Z" (.int z)) (hcs : ¬ z = 0) (S_ad : Sta Z Z.heap "java/lang/StringUTF16" "$assertionsDisabled" "Z" (.int (1 : Int32))) (S_hi : Sta Z Z.heap "java/lang/StringUTF16" "HI_BYTE_SHIFT" "I" (.int (0 : Int32))) (S_lo : Sta Z Z.heap "java/lang/StringUTF16" "LO_BYTE_SHIFT" "I" (.int (8 : Int32))) (hcs' : cs = P ++ c :: R) (hn : cs.length ≤ 16) (hP : ∀ x ∈ P, ¬ (255 : Int32) < x) (hc : (255 : Int32) < c) (u0 : 0 ≤ c.toInt) (u1 : c.toInt < 65536) (g_x : n0 ≤ x) (nxc : x ≠ ca) (E_x : Exa Z h0 x "java/lang/String") (F_x_value : Fld Z h0 x "java/lang/String" "value" "[B" .null) (F_x_coder : Fld Z h0 x "java/lang/String" "coder" "B" (.int (0 : Int32))) (V_ca : Arv Z h0 ca kc .char (Int32.ofNat cs.length) (cs.map Value.int) (.int (0 : Int32))) :
    Ct l Z n0 "java/lang/String" "<init>" "([CIILjava/lang/Void;)V" [] jdk_42_method_149_code 6 none R_si4u #[.ref x, .ref ca, .int (0 : Int32), .int (Int32.ofNat cs.length), .null] h0 (fun v h => v = none ∧ Keep h0 h [x] ∧ ∃ (t : Addr) (kt : ClassId), n0 ≤ t ∧ h0.size ≤ t ∧ Byu Z h x t kt cs) := by
  have hl1 : 1 ≤ cs.length := by rw [hcs', List.length_append, List.length_cons]; omega
  refine Ct.of_go pf_si4u (Ls := #[.val (.ref x), .val (.ref ca), .val (.int (0 : Int32)), .val (.int (Int32.ofNat cs.length)), .val .null, .unset]) (fun m => by first | rfl | (simp [entryFrame, mkF, argsToLocals, Value.category]; done)) ?_
  show GM_si4u l Z n0 (fun v h => v = none ∧ Keep h0 h [x] ∧ ∃ (t : Addr) (kt : ClassId), n0 ≤ t ∧ h0.size ≤ t ∧ Byu Z h x t kt cs) h0 0 0 0 #[.val (.ref x), .val (.ref ca), .val (.int (0 : Int32)), .val (.int (Int32.ofNat cs.length)), .val .null, .unset] []
  have KK : Keep h0 h0 [x] := Keep.refl _ _
  refine Go.aloadN d_si4u_0 rfl rfl ?_
  refine Go.initO (wd_12 hw) (wd_13 hw) (wd_14 hw) d_si4u_1 rfl (by decide) (Nat.le_of_ble_eq_true rfl) ?_
  refine Go.iloadN d_si4u_4 rfl ?_
  -- at pc 5: pc 5: ifCond .ifCond .ne 22 stack [(.int (Int32.ofNat cs.length))]
  -- not: (Int32.ofNat cs.length) = (0 : Int32)
  refine Go.ifT 27 d_si4u_5 (feq ((fun q => by have := (own_eqn (n := cs.length) (m := 0) (by omega) (by decide)).mp q; omega))).2 (by decide) (by decide) ?_
  refine Go.getS (wd_15 hw) Via.refl (S_cs.ext O.2) d_si4u_27 ?_
  -- at pc 30: pc 30: ifCond .ifCond .eq 28 stack [(.int z)]
  -- not: z = (0 : Int32)
  refine Go.ifF d_si4u_30 (feq (hcs)).1 ?_
  refine Go.aloadN d_si4u_33 rfl rfl ?_
  refine Go.iloadN d_si4u_34 rfl ?_
  refine Go.iloadN d_si4u_35 rfl ?_
  -- at pc 36: pc 36: invokestatic .invokestatic 177 stack [(.int (Int32.ofNat cs.length)), (.int (0 : Int32)), (.ref ca)]
  have lt_x := E_x.lt
  refine Go.callS (I' := IN) (hI := nQ) [(.ref ca), (.int (0 : Int32)), (.int (Int32.ofNat cs.length))] [] (ct_cmp2 l Z a0 hw n0 ca kc cs P R c _ hz O S_ad S_hi S_lo hcs' hn hP hc u0 u1 V_ca) (wd_16 hw) (wd_17 hw) (wd_18 hw) (wd_19 hw) (by decide) pd_18 rfl rfl rfl (Nat.le_of_ble_eq_true rfl) (Nat.le_of_ble_eq_true rfl) (Nat.le_of_ble_eq_true rfl) (Nat.le_of_ble_eq_true rfl) d_si4u_36 ?_
  rintro _ hp37 ⟨t, kt, rfl, g_t, s_t, K37, V_t⟩
  replace O := O.keep K37 (all0)
  replace E_x := E_x.keep K37
  replace F_x_value := F_x_value.keep K37 nin0
  replace F_x_coder := F_x_coder.keep K37 nin0
  replace V_ca := V_ca.keep K37 nin0
  replace hz : n0 ≤ hp37.size := Nat.le_trans hz K37.1
  replace KK : Keep h0 hp37 [x] := KK.trans K37 (all0)
  show GM_si4u l Z n0 (fun v h => v = none ∧ Keep h0 h [x] ∧ ∃ (t : Addr) (kt : ClassId), n0 ≤ t ∧ h0.size ≤ t ∧ Byu Z h x t kt cs) hp37 2 48 39 #[.val (.ref x), .val (.ref ca), .val (.int (0 : Int32)), .val (.int (Int32.ofNat cs.length)), .val .null, .unset] [(.ref t)]
  have ne_x_t : x ≠ t := (Nat.ne_of_lt (Nat.lt_of_lt_of_le lt_x s_t))
  refine Go.astore (Ls' := #[.val (.ref x), .val (.ref ca), .val (.int (0 : Int32)), .val (.int (Int32.ofNat cs.length)), .val .null, .val (.ref t)]) d_si4u_39 rfl rfl ?_
  refine Go.aloadN d_si4u_41 rfl rfl ?_
  refine Go.aload d_si4u_42 rfl rfl ?_
  refine Go.iloadN d_si4u_44 rfl ?_
  -- at pc 45: pc 45: invokestatic .invokestatic 47 stack [(.int (Int32.ofNat cs.length)), (.ref t), (.ref x)]
  refine Go.callS (I' := IN) (hI := nQ) [(.ref t), (.int (Int32.ofNat cs.length))] [(.ref x)] (ct_cfal l Z a0 hw n0 t kt cs.length _ _ _ hl1 hn V_t) (wd_24 hw) (wd_25 hw) (wd_18 hw) (wd_26 hw) (by decide) pd_20 rfl rfl rfl (Nat.le_of_ble_eq_true rfl) (Nat.le_of_ble_eq_true rfl) (Nat.le_of_ble_eq_true rfl) (Nat.le_of_ble_eq_true rfl) d_si4u_45 ?_
  rintro _ _ ⟨rfl, rfl⟩
  show GM_si4u l Z n0 (fun v h => v = none ∧ Keep h0 h [x] ∧ ∃ (t : Addr) (kt : ClassId), n0 ≤ t ∧ h0.size ≤ t ∧ Byu Z h x t kt cs) hp37 2 48 48 #[.val (.ref x), .val (.ref ca), .val (.int (0 : Int32)), .val (.int (Int32.ofNat cs.length)), .val .null, .val (.ref t)] [(.int (1 : Int32)), (.ref x)]
  refine Go.putFN (I' := IN) (hI := nI) (v' := (.int (1 : Int32))) (wd_27 hw) Via.refl F_x_coder E_x (Or.inr ⟨(wd_28 hw), rfl, rfl⟩) (wd_2 hw) (ty := .byte) (by decide) rfl rfl g_x d_si4u_48 fun hp39 W39 => ?_
  have K39 := Keep.of_wr W39
  replace F_x_value := F_x_value.other W39 (Or.inr (slot_ne (Or.inr (wd_30 hw)) (Or.inr (wd_28 hw)) (by decide) (t := (.array .byte)) (t' := .byte) (by decide) (by decide)))
  replace F_x_coder := F_x_coder.same W39
  replace O := O.keep K39 (allS g_x (all0))
  replace E_x := E_x.keep K39
  replace V_ca := V_ca.keep K39 (ninS (Ne.symm nxc) nin0)
  replace V_t := V_t.keep K39 (ninS (Ne.symm ne_x_t) nin0)
  replace hz : n0 ≤ hp39.size := Nat.le_trans hz K39.1
  replace KK : Keep h0 hp39 [x] := KK.trans K39 (allS (Or.inl (by simp)) (all0))
  refine Go.aloadN d_si4u_51 rfl rfl ?_
  refine Go.aload d_si4u_52 rfl rfl ?_
  refine Go.putF (I' := IN) (hI := nI) (wd_29 hw) Via.refl F_x_value E_x (Or.inr ⟨(wd_30 hw), rfl, rfl⟩) (wd_2 hw) (ty := (.array .byte)) (by decide) rfl rfl g_x d_si4u_54 fun hp40 W40 => ?_
  have K40 := Keep.of_wr W40
  replace F_x_value := F_x_value.same W40
  replace F_x_coder := F_x_coder.other W40 (Or.inr (slot_ne (Or.inr (wd_28 hw)) (Or.inr (wd_30 hw)) (by decide) (t := .byte) (t' := (.array .byte)) (by decide) (by decide)))
  replace O := O.keep K40 (allS g_x (all0))
  replace E_x := E_x.keep K40
  replace V_ca := V_ca.keep K40 (ninS (Ne.symm nxc) nin0)
  replace V_t := V_t.keep K40 (ninS (Ne.symm ne_x_t) nin0)
  replace hz : n0 ≤ hp40.size := Nat.le_trans hz K40.1
  replace KK : Keep h0 hp40 [x] := KK.trans K40 (allS (Or.inl (by simp)) (all0))
  -- at pc 57: pc 57: return .return_ stack []
  exact Go.return_ d_si4u_57 rfl (by decide) (by decide) ⟨rfl, KK, t, kt, g_t, s_t, E_x, F_x_coder, F_x_value, V_t⟩
theorem d_si1u_0 : decode jdk_42_method_3_code 0 = .ok (.aload_n 0, 1) := by decide +kernel
theorem d_si1u_1 : decode jdk_42_method_3_code 1 = .ok (.aload_n 1, 1) := by decide +kernel
theorem d_si1u_2 : decode jdk_42_method_3_code 2 = .ok (.iconst 0, 1) := by decide +kernel
theorem d_si1u_3 : decode jdk_42_method_3_code 3 = .ok (.aload_n 1, 1) := by decide +kernel
theorem d_si1u_4 : decode jdk_42_method_3_code 4 = .ok (.arraylength, 1) := by decide +kernel
theorem d_si1u_5 : decode jdk_42_method_3_code 5 = .ok (.aconst_null, 1) := by decide +kernel
theorem d_si1u_6 : decode jdk_42_method_3_code 6 = .ok (.invokespecial 27, 3) := by decide +kernel
theorem d_si1u_9 : decode jdk_42_method_3_code 9 = .ok (.return_, 1) := by decide +kernel
abbrev R_si1u : Room := ({ frames := 5, cells := 2, slots := 48, locals := 80 } : Room)
abbrev GM_si1u (l : Launch) (Z : State) (n0 : Nat) (Q : Option Value → Heap → Prop) (h : Heap) (cells slots pc : Nat) (Ls : Array Slot) (st : List Value) : Prop := Go l Z n0 R_si1u "java/lang/String" "<init>" jdk_42_method_3_code 2 none IN (FN n0 R_si1u Q) h cells slots pc Ls st
abbrev GW_si1u (l : Launch) (Z : State) (EL : List (String × Nat)) (s₀ : State) (n0 : Nat) (Q : Option Value → Heap → Prop) (lo : Nat) (Sf : List Addr) (h : Heap) (cells slots pc : Nat) (Ls : Array Slot) (st : List Value) : Prop := Go l Z n0 R_si1u "java/lang/String" "<init>" jdk_42_method_3_code 2 none (IW Z EL s₀ lo Sf) (FW Z EL s₀ n0 R_si1u Q) h cells slots pc Ls st
theorem pf_si1u : plainFor (⟨"java/lang/String", "<init>", "([C)V"⟩ : MethodName) = true := plainFor_of_name (by first | (simp [plainName, overriddenIn]; done) | decide +kernel)
theorem ct_si1u (l : Launch) (Z : State) (a0 : Array Value) (hw : ∀ d ∈ tables_1, d.before a0 Z = true) (n0 : Nat) (x ca : Addr) (kc : ClassId) (cs P R : List Int32) (c : Int32) (h0 : Heap) (hz : n0 ≤ h0.size) (O : Old Z n0 h0) (z : Int32) (S_cs : Sta Z Z.heap "java/lang/String" "COMPACT_STRINGS" "Z" (.int z)) (hcs : ¬ z = 0) (S_ad : Sta Z Z.heap "java/lang/StringUTF16" "$assertionsDisabled" "Z" (.int (1 : Int32))) (S_hi : Sta Z Z.heap "java/lang/StringUTF16" "HI_BYTE_SHIFT" "I" (.int (0 : Int32))) (S_lo : Sta Z Z.heap "java/lang/StringUTF16" "LO_BYTE_SHIFT" "I" (.int (8 : Int32))) (hcs' : cs = P ++ c :: R) (hn : cs.length ≤ 16) (hP : ∀ x ∈ P, ¬ (255 : Int32) < x) (hc : (255 : Int32) < c) (u0 : 0 ≤ c.toInt) (u1 : c.toInt < 65536) (g_x : n0 ≤ x) (nxc : x ≠ ca) (E_x : Exa Z h0 x "java/lang/String") (F_x_value : Fld Z h0 x "java/lang/String" "value" "[B" .null) (F_x_coder : Fld Z h0 x "java/lang/String" "coder" "B" (.int (0 : Int32))) (V_ca : Arv Z h0 ca kc .char (Int32.ofNat cs.length) (cs.map Value.int) (.int (0 : Int32))) :
    Ct l Z n0 "java/lang/String" "<init>" "([C)V" [] jdk_42_method_3_code 2 none R_si1u #[.ref x, .ref ca] h0 (fun v h => v = none ∧ Keep h0 h [x] ∧ ∃ (t : Addr) (kt : ClassId), n0 ≤ t ∧ h0.size ≤ t ∧ Byu Z h x t kt cs) := by
  refine Ct.of_go pf_si1u (Ls := #[.val (.ref x), .val (.ref ca)]) (fun m => by first | rfl | (simp [entryFrame, mkF, argsToLocals, Value.category]; done)) ?_
  show GM_si1u l Z n0 (fun v h => v = none ∧ Keep h0 h [x] ∧ ∃ (t : Addr) (kt : ClassId), n0 ≤ t ∧ h0.size ≤ t ∧ Byu Z h x t kt cs) h0 0 0 0 #[.val (.ref x), .val (.ref ca)] []
  refine Go.aloadN d_si1u_0 rfl rfl ?_
  refine Go.aloadN d_si1u_1 rfl rfl ?_
  refine Go.iconst 0 d_si1u_2 rfl ?_
  refine Go.aloadN d_si1u_3 rfl rfl ?_
  refine Go.arraylength V_ca d_si1u_4 ?_
  refine Go.null d_si1u_5 ?_
  -- at pc 6: pc 6: invokespecial .invokespecial 27 stack [.null, (.int (Int32.ofNat cs.length)), (.int (0 : Int32)), (.ref ca), (.ref x)]
  refine Go.callI (I' := IN) (hI := nQ) x [(.ref ca), (.int (0 : Int32)), (.int (Int32.ofNat cs.length)), .null] [] (ct_si4u l Z a0 hw n0 x ca kc cs P R c _ hz O z S_cs hcs S_ad S_hi S_lo hcs' hn hP hc u0 u1 g_x nxc E_x F_x_value F_x_coder V_ca) (wd_8 hw) (wd_9 hw) (wd_3 hw) (wd_11 hw) (by decide) pd_21 rfl rfl rfl (Nat.le_of_ble_eq_true rfl) (Nat.le_of_ble_eq_true rfl) (Nat.le_of_ble_eq_true rfl) (Nat.le_of_ble_eq_true rfl) d_si1u_6 ?_
  rintro _ hp41 ⟨rfl, K1, t, kt, q1, q2, q3⟩
  show GM_si1u l Z n0 (fun v h => v = none ∧ Keep h0 h [x] ∧ ∃ (t : Addr) (kt : ClassId), n0 ≤ t ∧ h0.size ≤ t ∧ Byu Z h x t kt cs) hp41 2 48 9 #[.val (.ref x), .val (.ref ca)] []
  -- at pc 9: pc 9: return .return_ stack []
  exact Go.return_ d_si1u_9 rfl (by decide) (by decide) ⟨rfl, K1, t, kt, q1, q2, q3⟩
theorem own_shr1 {n : Nat} (h : n < 2 ^ 29) : (Int32.ofNat (2 * n)) >>> ((1 : Int32) &&& 31) = Int32.ofNat n := by
  have q := c_ishr (Int32.ofNat (2 * n)) 1 1 (by decide)
  simp only [Nat.reducePow] at q
  rw [own_ofInt (by omega)] at q
  apply Int32.toInt_inj.mp
  rw [q, own_ofInt (by omega)]
  omega
theorem d_ulen_0 : decode jdk_52_method_6_code 0 = .ok (.aload_n 0, 1) := by decide +kernel
theorem d_ulen_1 : decode jdk_52_method_6_code 1 = .ok (.arraylength, 1) := by decide +kernel
theorem d_ulen_2 : decode jdk_52_method_6_code 2 = .ok (.iconst 1, 1) := by decide +kernel
theorem d_ulen_3 : decode jdk_52_method_6_code 3 = .ok (.ishr, 1) := by decide +kernel
theorem d_ulen_4 : decode jdk_52_method_6_code 4 = .ok (.ireturn, 1) := by decide +kernel
abbrev R_ulen : Room := ({ frames := 0, cells := 0, slots := 0, locals := 0 } : Room)
abbrev GM_ulen (l : Launch) (Z : State) (n0 : Nat) (Q : Option Value → Heap → Prop) (h : Heap) (cells slots pc : Nat) (Ls : Array Slot) (st : List Value) : Prop := Go l Z n0 R_ulen "java/lang/StringUTF16" "length" jdk_52_method_6_code 1 (some .int) IN (FN n0 R_ulen Q) h cells slots pc Ls st
abbrev GW_ulen (l : Launch) (Z : State) (EL : List (String × Nat)) (s₀ : State) (n0 : Nat) (Q : Option Value → Heap → Prop) (lo : Nat) (Sf : List Addr) (h : Heap) (cells slots pc : Nat) (Ls : Array Slot) (st : List Value) : Prop := Go l Z n0 R_ulen "java/lang/StringUTF16" "length" jdk_52_method_6_code 1 (some .int) (IW Z EL s₀ lo Sf) (FW Z EL s₀ n0 R_ulen Q) h cells slots pc Ls st
theorem pf_ulen : plainFor (⟨"java/lang/StringUTF16", "length", "([B)I"⟩ : MethodName) = true := plainFor_of_name (by first | (simp [plainName, overriddenIn]; done) | decide +kernel)
theorem ct_ulen (l : Launch) (Z : State) (a0 : Array Value) (hw : ∀ d ∈ tables_1, d.before a0 Z = true) (n0 : Nat) (b : Addr) (kb : ClassId) (n : Nat) (vs : List Value) (dv : Value) (h0 : Heap) (hn : n < 2 ^ 29) (V_b : Arv Z h0 b kb .byte (Int32.ofNat (2 * n)) vs dv) : Ct l Z n0 "java/lang/StringUTF16" "length" "([B)I" [] jdk_52_method_6_code 1 (some .int) R_ulen #[.ref b] h0 (fun v h => v = some (.int (Int32.ofNat n)) ∧ h0 = h) := by
  refine Ct.of_go pf_ulen (Ls := #[.val (.ref b)]) (fun m => by first | rfl | (simp [entryFrame, mkF, argsToLocals, Value.category]; done)) ?_
  show GM_ulen l Z n0 (fun v h => v = some (.int (Int32.ofNat n)) ∧ h0 = h) h0 0 0 0 #[.val (.ref b)] []
  refine Go.aloadN d_ulen_0 rfl rfl ?_
  refine Go.arraylength V_b d_ulen_1 ?_
  refine Go.iconst 1 d_ulen_2 rfl ?_
  refine Go.ishr d_ulen_3 ?_
  rw [show ((Int32.ofNat (2 * n)) >>> ((1 : Int32) &&& 31)) = (Int32.ofNat n) from (own_shr1 hn)]
  exact Go.ireturn d_ulen_4 rfl (by decide) (by decide) ⟨rfl, rfl⟩
theorem d_cfis_0 : decode jdk_41_method_13_code 0 = .ok (.iload_n 2, 1) := by decide +kernel
theorem d_cfis_1 : decode jdk_41_method_13_code 1 = .ok (.iload_n 0, 1) := by decide +kernel
theorem d_cfis_2 : decode jdk_41_method_13_code 2 = .ok (.ior, 1) := by decide +kernel
theorem d_cfis_3 : decode jdk_41_method_13_code 3 = .ok (.iload_n 1, 1) := by decide +kernel
theorem d_cfis_4 : decode jdk_41_method_13_code 4 = .ok (.ior, 1) := by decide +kernel
theorem d_cfis_5 : decode jdk_41_method_13_code 5 = .ok (.ifCond .lt 10, 3) := by decide +kernel
theorem d_cfis_8 : decode jdk_41_method_13_code 8 = .ok (.iload_n 1, 1) := by decide +kernel
theorem d_cfis_9 : decode jdk_41_method_13_code 9 = .ok (.iload_n 2, 1) := by decide +kernel
theorem d_cfis_10 : decode jdk_41_method_13_code 10 = .ok (.iload_n 0, 1) := by decide +kernel
theorem d_cfis_11 : decode jdk_41_method_13_code 11 = .ok (.isub, 1) := by decide +kernel
theorem d_cfis_12 : decode jdk_41_method_13_code 12 = .ok (.if_icmp .le 11, 3) := by decide +kernel
theorem d_cfis_23 : decode jdk_41_method_13_code 23 = .ok (.iload_n 0, 1) := by decide +kernel
theorem d_cfis_24 : decode jdk_41_method_13_code 24 = .ok (.ireturn, 1) := by decide +kernel
abbrev R_cfis : Room := ({ frames := 0, cells := 0, slots := 0, locals := 0 } : Room)
abbrev GM_cfis (l : Launch) (Z : State) (n0 : Nat) (Q : Option Value → Heap → Prop) (h : Heap) (cells slots pc : Nat) (Ls : Array Slot) (st : List Value) : Prop := Go l Z n0 R_cfis "jdk/internal/util/Preconditions" "checkFromIndexSize" jdk_41_method_13_code 4 (some .int) IN (FN n0 R_cfis Q) h cells slots pc Ls st
abbrev GW_cfis (l : Launch) (Z : State) (EL : List (String × Nat)) (s₀ : State) (n0 : Nat) (Q : Option Value → Heap → Prop) (lo : Nat) (Sf : List Addr) (h : Heap) (cells slots pc : Nat) (Ls : Array Slot) (st : List Value) : Prop := Go l Z n0 R_cfis "jdk/internal/util/Preconditions" "checkFromIndexSize" jdk_41_method_13_code 4 (some .int) (IW Z EL s₀ lo Sf) (FW Z EL s₀ n0 R_cfis Q) h cells slots pc Ls st
theorem pf_cfis : plainFor (⟨"jdk/internal/util/Preconditions", "checkFromIndexSize", "(IIILjava/util/function/BiFunction;)I"⟩ : MethodName) = true := plainFor_of_name (by first | (simp [plainName, overriddenIn]; done) | decide +kernel)
theorem ct_cfis (l : Launch) (Z : State) (a0 : Array Value) (hw : ∀ d ∈ tables_1, d.before a0 Z = true) (n0 : Nat) (a b m : Nat) (vf : Value) (hvf : vf.isRef = true) (h0 : Heap) (hm : m < 2 ^ 29) (hab : a + b ≤ m) : Ct l Z n0 "jdk/internal/util/Preconditions" "checkFromIndexSize" "(IIILjava/util/function/BiFunction;)I" [] jdk_41_method_13_code 4 (some .int) R_cfis #[.int (Int32.ofNat a), .int (Int32.ofNat b), .int (Int32.ofNat m), vf] h0 (fun v h => v = some (.int (Int32.ofNat a)) ∧ h0 = h) := by
  have ea := own_ofInt (n := a) (by omega)
  have eb := own_ofInt (n := b) (by omega)
  have em := own_ofInt (n := m) (by omega)
  have o1 := (c_orS (Int32.ofNat m) (Int32.ofNat a)).1 (by omega) (by omega)
  have o2 := (c_orS (Int32.ofNat m ||| Int32.ofNat a) (Int32.ofNat b)).1 o1 (by omega)
  have s := c_isub (Int32.ofNat m) (Int32.ofNat a)
  have r := rng32 (Int32.ofNat m - Int32.ofNat a)
  have e0 : (0 : Int32).toInt = 0 := rfl
  refine Ct.of_go pf_cfis (Ls := #[.val (.int (Int32.ofNat a)), .val (.int (Int32.ofNat b)), .val (.int (Int32.ofNat m)), .val vf]) (fun m => by rcases ref_cases hvf with rfl | ⟨_, rfl⟩ <;> rfl) ?_
  show GM_cfis l Z n0 (fun v h => v = some (.int (Int32.ofNat a)) ∧ h0 = h) h0 0 0 0 #[.val (.int (Int32.ofNat a)), .val (.int (Int32.ofNat b)), .val (.int (Int32.ofNat m)), .val vf] []
  refine Go.iloadN d_cfis_0 rfl ?_
  refine Go.iloadN d_cfis_1 rfl ?_
  refine Go.ior d_cfis_2 ?_
  refine Go.iloadN d_cfis_3 rfl ?_
  refine Go.ior d_cfis_4 ?_
  -- at pc 5: pc 5: ifCond .ifCond .lt 10 stack [(.int (((Int32.ofNat m) ||| (Int32.ofNat a)) ||| (Int32.ofNat b)))]
  -- not: (((Int32.ofNat m) ||| (Int32.ofNat a)) ||| (Int32.ofNat b)) < (0 : Int32)
  refine Go.ifF d_cfis_5 (flt ((by rw [Int32.lt_iff_toInt_lt]; omega))).1 ?_
  refine Go.iloadN d_cfis_8 rfl ?_
  refine Go.iloadN d_cfis_9 rfl ?_
  refine Go.iloadN d_cfis_10 rfl ?_
  refine Go.isub d_cfis_11 ?_
  -- at pc 12: pc 12: if_icmp .if_icmp .le 11 stack [(.int ((Int32.ofNat m) - (Int32.ofNat a))), (.int (Int32.ofNat b))]
  -- not: ((Int32.ofNat m) - (Int32.ofNat a)) < (Int32.ofNat b)
  refine Go.icT 23 d_cfis_12 (flt ((by rw [Int32.lt_iff_toInt_lt]; omega))).2.2.2 (by decide) (by decide) ?_
  refine Go.iloadN d_cfis_23 rfl ?_
  -- at pc 24: pc 24: ireturn .ireturn stack [(.int (Int32.ofNat a))]
  exact Go.ireturn d_cfis_24 rfl (by decide) (by decide) ⟨rfl, rfl⟩
theorem d_cboc_0 : decode jdk_42_method_157_code 0 = .ok (.iload_n 0, 1) := by decide +kernel
theorem d_cboc_1 : decode jdk_42_method_157_code 1 = .ok (.iload_n 1, 1) := by decide +kernel
theorem d_cboc_2 : decode jdk_42_method_157_code 2 = .ok (.iload_n 2, 1) := by decide +kernel
theorem d_cboc_3 : decode jdk_42_method_157_code 3 = .ok (.getstatic 1053, 3) := by decide +kernel
theorem d_cboc_6 : decode jdk_42_method_157_code 6 = .ok (.invokestatic 1065, 3) := by decide +kernel
theorem d_cboc_9 : decode jdk_42_method_157_code 9 = .ok (.ireturn, 1) := by decide +kernel
abbrev R_cboc : Room := ({ frames := 1, cells := 0, slots := 0, locals := 15 } : Room)
abbrev GM_cboc (l : Launch) (Z : State) (n0 : Nat) (Q : Option Value → Heap → Prop) (h : Heap) (cells slots pc : Nat) (Ls : Array Slot) (st : List Value) : Prop := Go l Z n0 R_cboc "java/lang/String" "checkBoundsOffCount" jdk_42_method_157_code 3 (some .int) IN (FN n0 R_cboc Q) h cells slots pc Ls st
abbrev GW_cboc (l : Launch) (Z : State) (EL : List (String × Nat)) (s₀ : State) (n0 : Nat) (Q : Option Value → Heap → Prop) (lo : Nat) (Sf : List Addr) (h : Heap) (cells slots pc : Nat) (Ls : Array Slot) (st : List Value) : Prop := Go l Z n0 R_cboc "java/lang/String" "checkBoundsOffCount" jdk_42_method_157_code 3 (some .int) (IW Z EL s₀ lo Sf) (FW Z EL s₀ n0 R_cboc Q) h cells slots pc Ls st
theorem pf_cboc : plainFor (⟨"java/lang/String", "checkBoundsOffCount", "(III)I"⟩ : MethodName) = true := plainFor_of_name (by first | (simp [plainName, overriddenIn]; done) | decide +kernel)
theorem ct_cboc (l : Launch) (Z : State) (a0 : Array Value) (hw : ∀ d ∈ tables_1, d.before a0 Z = true) (n0 : Nat) (a b m : Nat) (h0 : Heap) (O : Old Z n0 h0) (vf : Value) (hvf : vf.isRef = true) (S_f : Sta Z Z.heap "jdk/internal/util/Preconditions" "SIOOBE_FORMATTER" "Ljava/util/function/BiFunction;" vf) (hm : m < 2 ^ 29) (hab : a + b ≤ m) : Ct l Z n0 "java/lang/String" "checkBoundsOffCount" "(III)I" [] jdk_42_method_157_code 3 (some .int) R_cboc #[.int (Int32.ofNat a), .int (Int32.ofNat b), .int (Int32.ofNat m)] h0 (fun v h => v = some (.int (Int32.ofNat a)) ∧ h0 = h) := by
  refine Ct.of_go pf_cboc (Ls := #[.val (.int (Int32.ofNat a)), .val (.int (Int32.ofNat b)), .val (.int (Int32.ofNat m))]) (fun m => by first | rfl | (simp [entryFrame, mkF, argsToLocals, Value.category]; done)) ?_
  show GM_cboc l Z n0 (fun v h => v = some (.int (Int32.ofNat a)) ∧ h0 = h) h0 0 0 0 #[.val (.int (Int32.ofNat a)), .val (.int (Int32.ofNat b)), .val (.int (Int32.ofNat m))] []
  refine Go.iloadN d_cboc_0 rfl ?_
  refine Go.iloadN d_cboc_1 rfl ?_
  refine Go.iloadN d_cboc_2 rfl ?_
  refine Go.getS (wd_264 hw) Via.refl (S_f.ext O.2) d_cboc_3 ?_
  -- at pc 6: pc 6: invokestatic .invokestatic 1065 stack [vf, (.int (Int32.ofNat m)), (.int (Int32.ofNat b)), (.int (Int32.ofNat a))]
  refine Go.callS (I' := IN) (hI := nQ) [(.int (Int32.ofNat a)), (.int (Int32.ofNat b)), (.int (Int32.ofNat m)), vf] [] (ct_cfis l Z a0 hw n0 a b m vf hvf _ hm hab) (wd_266 hw) (wd_267 hw) (wd_265 hw) (wd_268 hw) (by decide) pd_22 rfl rfl rfl (Nat.le_of_ble_eq_true rfl) (Nat.le_of_ble_eq_true rfl) (Nat.le_of_ble_eq_true rfl) (Nat.le_of_ble_eq_true rfl) d_cboc_6 ?_
  rintro _ _ ⟨rfl, rfl⟩
  show GM_cboc l Z n0 (fun v h => v = some (.int (Int32.ofNat a)) ∧ h0 = h) h0 0 0 9 #[.val (.int (Int32.ofNat a)), .val (.int (Int32.ofNat b)), .val (.int (Int32.ofNat m))] [(.int (Int32.ofNat a))]
  -- at pc 9: pc 9: ireturn .ireturn stack [(.int (Int32.ofNat a))]
  exact Go.ireturn d_cboc_9 rfl (by decide) (by decide) ⟨rfl, rfl⟩
theorem d_ucboc_0 : decode jdk_52_method_94_code 0 = .ok (.iload_n 0, 1) := by decide +kernel
theorem d_ucboc_1 : decode jdk_52_method_94_code 1 = .ok (.iload_n 1, 1) := by decide +kernel
theorem d_ucboc_2 : decode jdk_52_method_94_code 2 = .ok (.aload_n 2, 1) := by decide +kernel
theorem d_ucboc_3 : decode jdk_52_method_94_code 3 = .ok (.invokestatic 48, 3) := by decide +kernel
theorem d_ucboc_6 : decode jdk_52_method_94_code 6 = .ok (.invokestatic 419, 3) := by decide +kernel
theorem d_ucboc_9 : decode jdk_52_method_94_code 9 = .ok (.pop, 1) := by decide +kernel
theorem d_ucboc_10 : decode jdk_52_method_94_code 10 = .ok (.return_, 1) := by decide +kernel
abbrev R_ucboc : Room := ({ frames := 2, cells := 0, slots := 0, locals := 30 } : Room)
abbrev GM_ucboc (l : Launch) (Z : State) (n0 : Nat) (Q : Option Value → Heap → Prop) (h : Heap) (cells slots pc : Nat) (Ls : Array Slot) (st : List Value) : Prop := Go l Z n0 R_ucboc "java/lang/StringUTF16" "checkBoundsOffCount" jdk_52_method_94_code 3 none IN (FN n0 R_ucboc Q) h cells slots pc Ls st
abbrev GW_ucboc (l : Launch) (Z : State) (EL : List (String × Nat)) (s₀ : State) (n0 : Nat) (Q : Option Value → Heap → Prop) (lo : Nat) (Sf : List Addr) (h : Heap) (cells slots pc : Nat) (Ls : Array Slot) (st : List Value) : Prop := Go l Z n0 R_ucboc "java/lang/StringUTF16" "checkBoundsOffCount" jdk_52_method_94_code 3 none (IW Z EL s₀ lo Sf) (FW Z EL s₀ n0 R_ucboc Q) h cells slots pc Ls st
theorem pf_ucboc : plainFor (⟨"java/lang/StringUTF16", "checkBoundsOffCount", "(II[B)V"⟩ : MethodName) = true := plainFor_of_name (by first | (simp [plainName, overriddenIn]; done) | decide +kernel)
theorem ct_ucboc (l : Launch) (Z : State) (a0 : Array Value) (hw : ∀ d ∈ tables_1, d.before a0 Z = true) (n0 : Nat) (va : Addr) (kv : ClassId) (a b m : Nat) (vs : List Value) (dv : Value) (h0 : Heap) (O : Old Z n0 h0) (vf : Value) (hvf : vf.isRef = true) (S_f : Sta Z Z.heap "jdk/internal/util/Preconditions" "SIOOBE_FORMATTER" "Ljava/util/function/BiFunction;" vf) (hm : m < 2 ^ 29) (hab : a + b ≤ m) (V_va : Arv Z h0 va kv .byte (Int32.ofNat (2 * m)) vs dv) : Ct l Z n0 "java/lang/StringUTF16" "checkBoundsOffCount" "(II[B)V" [] jdk_52_method_94_code 3 none R_ucboc #[.int (Int32.ofNat a), .int (Int32.ofNat b), .ref va] h0 (fun v h => v = none ∧ h0 = h) := by
  refine Ct.of_go pf_ucboc (Ls := #[.val (.int (Int32.ofNat a)), .val (.int (Int32.ofNat b)), .val (.ref va)]) (fun m => by first | rfl | (simp [entryFrame, mkF, argsToLocals, Value.category]; done)) ?_
  show GM_ucboc l Z n0 (fun v h => v = none ∧ h0 = h) h0 0 0 0 #[.val (.int (Int32.ofNat a)), .val (.int (Int32.ofNat b)), .val (.ref va)] []
  refine Go.iloadN d_ucboc_0 rfl ?_
  refine Go.iloadN d_ucboc_1 rfl ?_
  refine Go.aloadN d_ucboc_2 rfl rfl ?_
  -- at pc 3: pc 3: invokestatic .invokestatic 48 stack [(.ref va), (.int (Int32.ofNat b)), (.int (Int32.ofNat a))]
  refine Go.callS (I' := IN) (hI := nQ) [(.ref va)] [(.int (Int32.ofNat b)), (.int (Int32.ofNat a))] (ct_ulen l Z a0 hw n0 va kv m vs dv _ hm V_va) (wd_258 hw) (wd_259 hw) (wd_18 hw) (wd_260 hw) (by decide) pd_23 rfl rfl rfl (Nat.le_of_ble_eq_true rfl) (Nat.le_of_ble_eq_true rfl) (Nat.le_of_ble_eq_true rfl) (Nat.le_of_ble_eq_true rfl) d_ucboc_3 ?_
  rintro _ _ ⟨rfl, rfl⟩
  show GM_ucboc l Z n0 (fun v h => v = none ∧ h0 = h) h0 0 0 6 #[.val (.int (Int32.ofNat a)), .val (.int (Int32.ofNat b)), .val (.ref va)] [(.int (Int32.ofNat m)), (.int (Int32.ofNat b)), (.int (Int32.ofNat a))]
  -- at pc 6: pc 6: invokestatic .invokestatic 419 stack [(.int (Int32.ofNat m)), (.int (Int32.ofNat b)), (.int (Int32.ofNat a))]
  refine Go.callS (I' := IN) (hI := nQ) [(.int (Int32.ofNat a)), (.int (Int32.ofNat b)), (.int (Int32.ofNat m))] [] (ct_cboc l Z a0 hw n0 a b m _ O vf hvf S_f hm hab) (wd_261 hw) (wd_262 hw) (wd_3 hw) (wd_263 hw) (by decide) pd_24 rfl rfl rfl (Nat.le_of_ble_eq_true rfl) (Nat.le_of_ble_eq_true rfl) (Nat.le_of_ble_eq_true rfl) (Nat.le_of_ble_eq_true rfl) d_ucboc_6 ?_
  rintro _ _ ⟨rfl, rfl⟩
  show GM_ucboc l Z n0 (fun v h => v = none ∧ h0 = h) h0 0 0 9 #[.val (.int (Int32.ofNat a)), .val (.int (Int32.ofNat b)), .val (.ref va)] [(.int (Int32.ofNat a))]
  refine Go.pop d_ucboc_9 rfl ?_
  -- at pc 10: pc 10: return .return_ stack []
  exact Go.return_ d_ucboc_10 rfl (by decide) (by decide) ⟨rfl, rfl⟩
theorem own_mask8 (b : Int32) {c : Int32} (h : b = own_b c) (h0 : 0 ≤ c.toInt) (h1 : c.toInt < 256) : b &&& (255 : Int32) = c := by
  subst h
  have a1 := c_mask (own_b c) 255 8 (by decide) (by decide)
  have a3 : ((own_b c).toInt - c.toInt) % 256 = 0 := (c_i2b c).1
  simp only [Nat.reducePow] at a1
  apply Int32.toInt_inj.mp
  omega
theorem d_uinf_0 : decode jdk_52_method_86_code 0 = .ok (.iload_n 3, 1) := by decide +kernel
theorem d_uinf_1 : decode jdk_52_method_86_code 1 = .ok (.iload 4, 2) := by decide +kernel
theorem d_uinf_3 : decode jdk_52_method_86_code 3 = .ok (.aload_n 2, 1) := by decide +kernel
theorem d_uinf_4 : decode jdk_52_method_86_code 4 = .ok (.invokestatic 173, 3) := by decide +kernel
theorem d_uinf_7 : decode jdk_52_method_86_code 7 = .ok (.iconst 0, 1) := by decide +kernel
theorem d_uinf_8 : decode jdk_52_method_86_code 8 = .ok (.istore 5, 2) := by decide +kernel
theorem d_uinf_10 : decode jdk_52_method_86_code 10 = .ok (.iload 5, 2) := by decide +kernel
theorem d_uinf_12 : decode jdk_52_method_86_code 12 = .ok (.iload 4, 2) := by decide +kernel
theorem d_uinf_14 : decode jdk_52_method_86_code 14 = .ok (.if_icmp .ge 27, 3) := by decide +kernel
theorem d_uinf_17 : decode jdk_52_method_86_code 17 = .ok (.aload_n 2, 1) := by decide +kernel
theorem d_uinf_18 : decode jdk_52_method_86_code 18 = .ok (.iload_n 3, 1) := by decide +kernel
theorem d_uinf_19 : decode jdk_52_method_86_code 19 = .ok (.iinc 3 1, 3) := by decide +kernel
theorem d_uinf_22 : decode jdk_52_method_86_code 22 = .ok (.aload_n 0, 1) := by decide +kernel
theorem d_uinf_23 : decode jdk_52_method_86_code 23 = .ok (.iload_n 1, 1) := by decide +kernel
theorem d_uinf_24 : decode jdk_52_method_86_code 24 = .ok (.iinc 1 1, 3) := by decide +kernel
theorem d_uinf_27 : decode jdk_52_method_86_code 27 = .ok (.baload, 1) := by decide +kernel
theorem d_uinf_28 : decode jdk_52_method_86_code 28 = .ok (.sipush 255, 3) := by decide +kernel
theorem d_uinf_31 : decode jdk_52_method_86_code 31 = .ok (.iand, 1) := by decide +kernel
theorem d_uinf_32 : decode jdk_52_method_86_code 32 = .ok (.invokestatic 111, 3) := by decide +kernel
theorem d_uinf_35 : decode jdk_52_method_86_code 35 = .ok (.iinc 5 1, 3) := by decide +kernel
theorem d_uinf_38 : decode jdk_52_method_86_code 38 = .ok (.goto (-28), 3) := by decide +kernel
theorem d_uinf_41 : decode jdk_52_method_86_code 41 = .ok (.return_, 1) := by decide +kernel
abbrev R_uinf : Room := ({ frames := 3, cells := 0, slots := 0, locals := 46 } : Room)
abbrev GM_uinf (l : Launch) (Z : State) (n0 : Nat) (Q : Option Value → Heap → Prop) (h : Heap) (cells slots pc : Nat) (Ls : Array Slot) (st : List Value) : Prop := Go l Z n0 R_uinf "java/lang/StringUTF16" "inflate" jdk_52_method_86_code 6 none IN (FN n0 R_uinf Q) h cells slots pc Ls st
abbrev GW_uinf (l : Launch) (Z : State) (EL : List (String × Nat)) (s₀ : State) (n0 : Nat) (Q : Option Value → Heap → Prop) (lo : Nat) (Sf : List Addr) (h : Heap) (cells slots pc : Nat) (Ls : Array Slot) (st : List Value) : Prop := Go l Z n0 R_uinf "java/lang/StringUTF16" "inflate" jdk_52_method_86_code 6 none (IW Z EL s₀ lo Sf) (FW Z EL s₀ n0 R_uinf Q) h cells slots pc Ls st
theorem pf_uinf : plainFor (⟨"java/lang/StringUTF16", "inflate", "([BI[BII)V"⟩ : MethodName) = true := plainFor_of_name (by first | (simp [plainName, overriddenIn]; done) | decide +kernel)
set_option maxHeartbeats 2000000 in
theorem ct_uinf (l : Launch) (Z : State) (a0 : Array Value) (hw : ∀ d ∈ tables_1, d.before a0 Z = true) (n0 : Nat) (sr va : Addr) (ks kv : ClassId) (cs P : List Int32) (N : Int32) (M : Nat) (h0 : Heap) (hz : n0 ≤ h0.size) (O : Old Z n0 h0) (S_ad : Sta Z Z.heap "java/lang/StringUTF16" "$assertionsDisabled" "Z" (.int (1 : Int32))) (S_hi : Sta Z Z.heap "java/lang/StringUTF16" "HI_BYTE_SHIFT" "I" (.int (0 : Int32))) (S_lo : Sta Z Z.heap "java/lang/StringUTF16" "LO_BYTE_SHIFT" "I" (.int (8 : Int32))) (vf : Value) (hvf : vf.isRef = true) (S_f : Sta Z Z.heap "jdk/internal/util/Preconditions" "SIOOBE_FORMATTER" "Ljava/util/function/BiFunction;" vf) (hL : ∀ c ∈ cs, 0 ≤ c.toInt ∧ c.toInt < 256) (hM : M ≤ 16) (hPM : P.length + cs.length ≤ M) (g_va : n0 ≤ va) (nsv : sr ≠ va) (hN : ∀ i : Nat, i < cs.length → Int32.ofNat i < N) (V_sr : Arv Z h0 sr ks .byte N ((cs.map own_b).map Value.int) (.int (0 : Int32))) (V_va : Arv Z h0 va kv .byte (Int32.ofNat (2 * M)) ((enc2 P).map Value.int) (.int (0 : Int32))) :
    Ct l Z n0 "java/lang/StringUTF16" "inflate" "([BI[BII)V" [] jdk_52_method_86_code 6 none R_uinf #[.ref sr, .int (0 : Int32), .ref va, .int (Int32.ofNat P.length), .int (Int32.ofNat cs.length)] h0 (fun v h => v = none ∧ Keep h0 h [va] ∧ Arv Z h va kv .byte (Int32.ofNat (2 * M)) ((enc2 (P ++ cs)).map Value.int) (.int (0 : Int32))) := by
  have V_sr0 := V_sr
  refine Ct.of_go pf_uinf (Ls := #[.val (.ref sr), .val (.int (0 : Int32)), .val (.ref va), .val (.int (Int32.ofNat P.length)), .val (.int (Int32.ofNat cs.length)), .unset]) (fun m => by first | rfl | (simp [entryFrame, mkF, argsToLocals, Value.category]; done)) ?_
  show GM_uinf l Z n0 (fun v h => v = none ∧ Keep h0 h [va] ∧ Arv Z h va kv .byte (Int32.ofNat (2 * M)) ((enc2 (P ++ cs)).map Value.int) (.int (0 : Int32))) h0 0 0 0 #[.val (.ref sr), .val (.int (0 : Int32)), .val (.ref va), .val (.int (Int32.ofNat P.length)), .val (.int (Int32.ofNat cs.length)), .unset] []
  have KK : Keep h0 h0 [va] := Keep.refl _ _
  refine Go.iloadN d_uinf_0 rfl ?_
  refine Go.iload d_uinf_1 rfl ?_
  refine Go.aloadN d_uinf_3 rfl rfl ?_
  -- at pc 4: pc 4: invokestatic .invokestatic 173 stack [(.ref va), (.int (Int32.ofNat cs.length)), (.int (Int32.ofNat P.length))]
  refine Go.callS (I' := IN) (hI := nQ) [(.int (Int32.ofNat P.length)), (.int (Int32.ofNat cs.length)), (.ref va)] [] (ct_ucboc l Z a0 hw n0 va kv P.length cs.length M _ _ _ O vf hvf S_f (by omega) hPM V_va) (wd_255 hw) (wd_256 hw) (wd_18 hw) (wd_257 hw) (by decide) pd_25 rfl rfl rfl (Nat.le_of_ble_eq_true rfl) (Nat.le_of_ble_eq_true rfl) (Nat.le_of_ble_eq_true rfl) (Nat.le_of_ble_eq_true rfl) d_uinf_4 ?_
  rintro _ _ ⟨rfl, rfl⟩
  show GM_uinf l Z n0 (fun v h => v = none ∧ Keep h0 h [va] ∧ Arv Z h va kv .byte (Int32.ofNat (2 * M)) ((enc2 (P ++ cs)).map Value.int) (.int (0 : Int32))) h0 0 0 7 #[.val (.ref sr), .val (.int (0 : Int32)), .val (.ref va), .val (.int (Int32.ofNat P.length)), .val (.int (Int32.ofNat cs.length)), .unset] []
  refine Go.iconst 0 d_uinf_7 rfl ?_
  refine Go.istore (Ls' := #[.val (.ref sr), .val (.int (0 : Int32)), .val (.ref va), .val (.int (Int32.ofNat P.length)), .val (.int (Int32.ofNat cs.length)), .val (.int (0 : Int32))]) d_uinf_8 rfl ?_
  have loop : ∀ (Q : List Int32) (i : Nat) (h : Heap), cs.drop i = Q → i + Q.length = cs.length → n0 ≤ h.size → Old Z n0 h → Keep h0 h [va] → Arv Z h va kv .byte (Int32.ofNat (2 * M)) ((enc2 (P ++ cs.take i)).map Value.int) (.int (0 : Int32)) → GM_uinf l Z n0 (fun v h => v = none ∧ Keep h0 h [va] ∧ Arv Z h va kv .byte (Int32.ofNat (2 * M)) ((enc2 (P ++ cs)).map Value.int) (.int (0 : Int32))) h 0 0 10 #[.val (.ref sr), .val (.int (Int32.ofNat i)), .val (.ref va), .val (.int (Int32.ofNat (P.length + i))), .val (.int (Int32.ofNat cs.length)), .val (.int (Int32.ofNat i))] [] := by
    clear V_va KK O hz
    intro Q
    induction Q with
    | nil =>
      intro i h hd hi hz O KK V_va
      have hie : i = cs.length := by simpa using hi
      refine Go.iload d_uinf_10 rfl ?_
      refine Go.iload d_uinf_12 rfl ?_
      -- at pc 14: pc 14: if_icmp .if_icmp .ge 27 stack [(.int (Int32.ofNat cs.length)), (.int (Int32.ofNat i))]
      -- not: (Int32.ofNat i) < (Int32.ofNat cs.length)
      refine Go.icT 41 d_uinf_14 (flt ((by rw [hie]; exact own_irr _))).2.1 (by decide) (by decide) ?_
      -- at pc 41: pc 41: return .return_ stack []
      exact Go.return_ d_uinf_41 rfl (by decide) (by decide) ⟨rfl, KK, by rw [hie, List.take_length] at V_va; exact V_va⟩
    | cons x Q ih =>
      intro i h hd hi hz O KK V_va
      have V_sr := V_sr0.keep KK (ninS nsv nin0)
      have hci : cs[i]? = some x := by
        have := congrArg (fun L => L[0]?) hd
        simpa using this
      have hil : i < cs.length := (List.getElem?_eq_some_iff.mp hci).1
      have hxm : x ∈ cs := List.mem_of_getElem? hci
      have hd' : cs.drop (i + 1) = Q := by rw [← List.drop_drop, hd]; rfl
      have htl : (P ++ cs.take i).length = P.length + i := by rw [List.length_append, List.length_take]; omega
      refine Go.iload d_uinf_10 rfl ?_
      refine Go.iload d_uinf_12 rfl ?_
      -- at pc 14: pc 14: if_icmp .if_icmp .ge 27 stack [(.int (Int32.ofNat cs.length)), (.int (Int32.ofNat i))]
      -- (Int32.ofNat i) < (Int32.ofNat cs.length)
      refine Go.icF d_uinf_14 (tlt ((own_idx hil (by omega)).2)).2.1 ?_
      refine Go.aloadN d_uinf_17 rfl rfl ?_
      refine Go.iloadN d_uinf_18 rfl ?_
      refine Go.iinc (Ls' := #[.val (.ref sr), .val (.int (Int32.ofNat i)), .val (.ref va), .val (.int ((Int32.ofNat (P.length + i)) + (1 : Int32))), .val (.int (Int32.ofNat cs.length)), .val (.int (Int32.ofNat i))]) (1 : Int32) rfl d_uinf_19 rfl rfl ?_
      refine Go.aloadN d_uinf_22 rfl rfl ?_
      refine Go.iloadN d_uinf_23 rfl ?_
      refine Go.iinc (Ls' := #[.val (.ref sr), .val (.int ((Int32.ofNat i) + (1 : Int32))), .val (.ref va), .val (.int ((Int32.ofNat (P.length + i)) + (1 : Int32))), .val (.int (Int32.ofNat cs.length)), .val (.int (Int32.ofNat i))]) (1 : Int32) rfl d_uinf_24 rfl rfl ?_
      -- at pc 27: pc 27: baload of sr at (Int32.ofNat i): '!aload value ; bounds ; getD'
      refine Go.baload (.int (own_b x)) V_sr ⟨own_nneg (by omega), hN i hil⟩ (by rw [own_clamp (by omega), List.getD_eq_getElem?_getD, List.getElem?_map, List.getElem?_map, hci]; rfl) d_uinf_27 ?_
      refine Go.sipush 255 d_uinf_28 rfl ?_
      refine Go.iand d_uinf_31 ?_
      rw [show ((own_b x) &&& (255 : Int32)) = x from (own_mask8 _ rfl (hL x hxm).1 (hL x hxm).2)]
      refine Go.callS (I' := IN) (hI := nQ) [(.ref va), (.int (Int32.ofNat (P.length + i))), (.int x)] [] (ct_putc l Z a0 hw n0 va kv (P ++ cs.take i) x M (Int32.ofNat (P.length + i)) _ O S_ad S_hi S_lo (by rw [htl]) g_va (by omega) (by omega) V_va) (wd_234 hw) (wd_235 hw) (wd_18 hw) (wd_236 hw) (by decide) pd_16 rfl rfl rfl (Nat.le_of_ble_eq_true rfl) (Nat.le_of_ble_eq_true rfl) (Nat.le_of_ble_eq_true rfl) (Nat.le_of_ble_eq_true rfl) d_uinf_32 ?_
      rintro _ hp46 ⟨rfl, K46, V1⟩
      replace O := O.keep K46 (allS g_va (all0))
      replace hz : n0 ≤ hp46.size := Nat.le_trans hz K46.1
      replace KK : Keep h0 hp46 [va] := KK.trans K46 (allS (Or.inl (by simp)) (all0))
      show GM_uinf l Z n0 (fun v h => v = none ∧ Keep h0 h [va] ∧ Arv Z h va kv .byte (Int32.ofNat (2 * M)) ((enc2 (P ++ cs)).map Value.int) (.int (0 : Int32))) hp46 0 0 35 #[.val (.ref sr), .val (.int ((Int32.ofNat i) + (1 : Int32))), .val (.ref va), .val (.int ((Int32.ofNat (P.length + i)) + (1 : Int32))), .val (.int (Int32.ofNat cs.length)), .val (.int (Int32.ofNat i))] []
      refine Go.iinc (Ls' := #[.val (.ref sr), .val (.int ((Int32.ofNat i) + (1 : Int32))), .val (.ref va), .val (.int ((Int32.ofNat (P.length + i)) + (1 : Int32))), .val (.int (Int32.ofNat cs.length)), .val (.int ((Int32.ofNat i) + (1 : Int32)))]) (1 : Int32) rfl d_uinf_35 rfl rfl ?_
      rw [show ((Int32.ofNat i) + (1 : Int32)) = (Int32.ofNat (i + 1)) from (own_of1 _)]
      rw [show ((Int32.ofNat (P.length + i)) + (1 : Int32)) = (Int32.ofNat (P.length + (i + 1))) from (own_of1 _)]
      refine Go.goto 10 d_uinf_38 (by decide) (by decide) ?_
      exact ih (i + 1) _ hd' (by simp only [List.length_cons] at hi; omega) hz O KK (by rw [List.take_add_one, hci, ← List.append_assoc]; exact V1)
  exact loop cs 0 _ rfl (by simp) hz O KK (by rw [List.take_zero, List.append_nil]; exact V_va)
theorem d_linf_0 : decode jdk_43_method_50_code 0 = .ok (.aload_n 0, 1) := by decide +kernel
theorem d_linf_1 : decode jdk_43_method_50_code 1 = .ok (.iload_n 1, 1) := by decide +kernel
theorem d_linf_2 : decode jdk_43_method_50_code 2 = .ok (.aload_n 2, 1) := by decide +kernel
theorem d_linf_3 : decode jdk_43_method_50_code 3 = .ok (.iload_n 3, 1) := by decide +kernel
theorem d_linf_4 : decode jdk_43_method_50_code 4 = .ok (.iload 4, 2) := by decide +kernel
theorem d_linf_6 : decode jdk_43_method_50_code 6 = .ok (.invokestatic 240, 3) := by decide +kernel
theorem d_linf_9 : decode jdk_43_method_50_code 9 = .ok (.return_, 1) := by decide +kernel
abbrev R_linf : Room := ({ frames := 4, cells := 0, slots := 0, locals := 64 } : Room)
abbrev GM_linf (l : Launch) (Z : State) (n0 : Nat) (Q : Option Value → Heap → Prop) (h : Heap) (cells slots pc : Nat) (Ls : Array Slot) (st : List Value) : Prop := Go l Z n0 R_linf "java/lang/StringLatin1" "inflate" jdk_43_method_50_code 5 none IN (FN n0 R_linf Q) h cells slots pc Ls st
abbrev GW_linf (l : Launch) (Z : State) (EL : List (String × Nat)) (s₀ : State) (n0 : Nat) (Q : Option Value → Heap → Prop) (lo : Nat) (Sf : List Addr) (h : Heap) (cells slots pc : Nat) (Ls : Array Slot) (st : List Value) : Prop := Go l Z n0 R_linf "java/lang/StringLatin1" "inflate" jdk_43_method_50_code 5 none (IW Z EL s₀ lo Sf) (FW Z EL s₀ n0 R_linf Q) h cells slots pc Ls st
theorem pf_linf : plainFor (⟨"java/lang/StringLatin1", "inflate", "([BI[BII)V"⟩ : MethodName) = true := plainFor_of_name (by first | (simp [plainName, overriddenIn]; done) | decide +kernel)
theorem ct_linf (l : Launch) (Z : State) (a0 : Array Value) (hw : ∀ d ∈ tables_1, d.before a0 Z = true) (n0 : Nat) (sr va : Addr) (ks kv : ClassId) (cs P : List Int32) (N : Int32) (M : Nat) (h0 : Heap) (hz : n0 ≤ h0.size) (O : Old Z n0 h0) (S_ad : Sta Z Z.heap "java/lang/StringUTF16" "$assertionsDisabled" "Z" (.int (1 : Int32))) (S_hi : Sta Z Z.heap "java/lang/StringUTF16" "HI_BYTE_SHIFT" "I" (.int (0 : Int32))) (S_lo : Sta Z Z.heap "java/lang/StringUTF16" "LO_BYTE_SHIFT" "I" (.int (8 : Int32))) (vf : Value) (hvf : vf.isRef = true) (S_f : Sta Z Z.heap "jdk/internal/util/Preconditions" "SIOOBE_FORMATTER" "Ljava/util/function/BiFunction;" vf) (hL : ∀ c ∈ cs, 0 ≤ c.toInt ∧ c.toInt < 256) (hM : M ≤ 16) (hPM : P.length + cs.length ≤ M) (g_va : n0 ≤ va) (nsv : sr ≠ va) (hN : ∀ i : Nat, i < cs.length → Int32.ofNat i < N) (V_sr : Arv Z h0 sr ks .byte N ((cs.map own_b).map Value.int) (.int (0 : Int32))) (V_va : Arv Z h0 va kv .byte (Int32.ofNat (2 * M)) ((enc2 P).map Value.int) (.int (0 : Int32))) :
    Ct l Z n0 "java/lang/StringLatin1" "inflate" "([BI[BII)V" [] jdk_43_method_50_code 5 none R_linf #[.ref sr, .int (0 : Int32), .ref va, .int (Int32.ofNat P.length), .int (Int32.ofNat cs.length)] h0 (fun v h => v = none ∧ Keep h0 h [va] ∧ Arv Z h va kv .byte (Int32.ofNat (2 * M)) ((enc2 (P ++ cs)).map Value.int) (.int (0 : Int32))) := by
  refine Ct.of_go pf_linf (Ls := #[.val (.ref sr), .val (.int (0 : Int32)), .val (.ref va), .val (.int (Int32.ofNat P.length)), .val (.int (Int32.ofNat cs.length))]) (fun m => by first | rfl | (simp [entryFrame, mkF, argsToLocals, Value.category]; done)) ?_
  show GM_linf l Z n0 (fun v h => v = none ∧ Keep h0 h [va] ∧ Arv Z h va kv .byte (Int32.ofNat (2 * M)) ((enc2 (P ++ cs)).map Value.int) (.int (0 : Int32))) h0 0 0 0 #[.val (.ref sr), .val (.int (0 : Int32)), .val (.ref va), .val (.int (Int32.ofNat P.length)), .val (.int (Int32.ofNat cs.length))] []
  refine Go.aloadN d_linf_0 rfl rfl ?_
  refine Go.iloadN d_linf_1 rfl ?_
  refine Go.aloadN d_linf_2 rfl rfl ?_
  refine Go.iloadN d_linf_3 rfl ?_
  refine Go.iload d_linf_4 rfl ?_
  -- at pc 6: pc 6: invokestatic .invokestatic 240 stack [(.int (Int32.ofNat cs.length)), (.int (Int32.ofNat P.length)), (.ref va), (.int (0 : Int32)), (.ref sr)]
  refine Go.callS (I' := IN) (hI := nQ) [(.ref sr), (.int (0 : Int32)), (.ref va), (.int (Int32.ofNat P.length)), (.int (Int32.ofNat cs.length))] [] (ct_uinf l Z a0 hw n0 sr va ks kv cs P N M _ hz O S_ad S_hi S_lo vf hvf S_f hL hM hPM g_va nsv hN V_sr V_va) (wd_252 hw) (wd_253 hw) (wd_18 hw) (wd_254 hw) (by decide) pd_26 rfl rfl rfl (Nat.le_of_ble_eq_true rfl) (Nat.le_of_ble_eq_true rfl) (Nat.le_of_ble_eq_true rfl) (Nat.le_of_ble_eq_true rfl) d_linf_6 ?_
  rintro _ hp47 ⟨rfl, K1, V1⟩
  show GM_linf l Z n0 (fun v h => v = none ∧ Keep h0 h [va] ∧ Arv Z h va kv .byte (Int32.ofNat (2 * M)) ((enc2 (P ++ cs)).map Value.int) (.int (0 : Int32))) hp47 0 0 9 #[.val (.ref sr), .val (.int (0 : Int32)), .val (.ref va), .val (.int (Int32.ofNat P.length)), .val (.int (Int32.ofNat cs.length))] []
  -- at pc 9: pc 9: return .return_ stack []
  exact Go.return_ d_linf_9 rfl (by decide) (by decide) ⟨rfl, K1, V1⟩
/-- a StringBuilder of 16 chars, two bytes a char -/
def Sbu (Z : State) (h : Heap) (sb va : Addr) (kv : ClassId) (cs : List Int32) : Prop := Exa Z h sb "java/lang/StringBuilder" ∧ Fld Z h sb "java/lang/AbstractStringBuilder" "value" "[B" (.ref va) ∧ Fld Z h sb "java/lang/AbstractStringBuilder" "coder" "B" (.int (1 : Int32)) ∧ Fld Z h sb "java/lang/AbstractStringBuilder" "count" "I" (.int (Int32.ofNat cs.length)) ∧ Arv Z h va kv .byte (Int32.ofNat (2 * 16)) ((enc2 cs).map Value.int) (.int (0 : Int32)) ∧ Fld Z h sb "java/lang/AbstractStringBuilder" "maybeLatin1" "Z" (.int (0 : Int32))
theorem d_binf_0 : decode jdk_68_method_11_code 0 = .ok (.aload_n 0, 1) := by decide +kernel
theorem d_binf_1 : decode jdk_68_method_11_code 1 = .ok (.invokevirtual 83, 3) := by decide +kernel
theorem d_binf_4 : decode jdk_68_method_11_code 4 = .ok (.ifCond .ne 4, 3) := by decide +kernel
theorem d_binf_7 : decode jdk_68_method_11_code 7 = .ok (.return_, 1) := by decide +kernel
theorem d_binf_8 : decode jdk_68_method_11_code 8 = .ok (.aload_n 0, 1) := by decide +kernel
theorem d_binf_9 : decode jdk_68_method_11_code 9 = .ok (.getfield 15, 3) := by decide +kernel
theorem d_binf_12 : decode jdk_68_method_11_code 12 = .ok (.arraylength, 1) := by decide +kernel
theorem d_binf_13 : decode jdk_68_method_11_code 13 = .ok (.invokestatic 26, 3) := by decide +kernel
theorem d_binf_16 : decode jdk_68_method_11_code 16 = .ok (.astore_n 1, 1) := by decide +kernel
theorem d_binf_17 : decode jdk_68_method_11_code 17 = .ok (.aload_n 0, 1) := by decide +kernel
theorem d_binf_18 : decode jdk_68_method_11_code 18 = .ok (.getfield 15, 3) := by decide +kernel
theorem d_binf_21 : decode jdk_68_method_11_code 21 = .ok (.iconst 0, 1) := by decide +kernel
theorem d_binf_22 : decode jdk_68_method_11_code 22 = .ok (.aload_n 1, 1) := by decide +kernel
theorem d_binf_23 : decode jdk_68_method_11_code 23 = .ok (.iconst 0, 1) := by decide +kernel
theorem d_binf_24 : decode jdk_68_method_11_code 24 = .ok (.aload_n 0, 1) := by decide +kernel
theorem d_binf_25 : decode jdk_68_method_11_code 25 = .ok (.getfield 79, 3) := by decide +kernel
theorem d_binf_28 : decode jdk_68_method_11_code 28 = .ok (.invokestatic 125, 3) := by decide +kernel
theorem d_binf_31 : decode jdk_68_method_11_code 31 = .ok (.aload_n 0, 1) := by decide +kernel
theorem d_binf_32 : decode jdk_68_method_11_code 32 = .ok (.aload_n 1, 1) := by decide +kernel
theorem d_binf_33 : decode jdk_68_method_11_code 33 = .ok (.putfield 15, 3) := by decide +kernel
theorem d_binf_36 : decode jdk_68_method_11_code 36 = .ok (.aload_n 0, 1) := by decide +kernel
theorem d_binf_37 : decode jdk_68_method_11_code 37 = .ok (.iconst 1, 1) := by decide +kernel
theorem d_binf_38 : decode jdk_68_method_11_code 38 = .ok (.putfield 22, 3) := by decide +kernel
theorem d_binf_41 : decode jdk_68_method_11_code 41 = .ok (.return_, 1) := by decide +kernel
abbrev R_binf : Room := ({ frames := 5, cells := 1, slots := 32, locals := 80 } : Room)
abbrev GM_binf (l : Launch) (Z : State) (n0 : Nat) (Q : Option Value → Heap → Prop) (h : Heap) (cells slots pc : Nat) (Ls : Array Slot) (st : List Value) : Prop := Go l Z n0 R_binf "java/lang/AbstractStringBuilder" "inflate" jdk_68_method_11_code 2 none IN (FN n0 R_binf Q) h cells slots pc Ls st
abbrev GW_binf (l : Launch) (Z : State) (EL : List (String × Nat)) (s₀ : State) (n0 : Nat) (Q : Option Value → Heap → Prop) (lo : Nat) (Sf : List Addr) (h : Heap) (cells slots pc : Nat) (Ls : Array Slot) (st : List Value) : Prop := Go l Z n0 R_binf "java/lang/AbstractStringBuilder" "inflate" jdk_68_method_11_code 2 none (IW Z EL s₀ lo Sf) (FW Z EL s₀ n0 R_binf Q) h cells slots pc Ls st
theorem pf_binf : plainFor (⟨"java/lang/AbstractStringBuilder", "inflate", "()V"⟩ : MethodName) = true := plainFor_of_name (by first | (simp [plainName, overriddenIn]; done) | decide +kernel)
set_option maxHeartbeats 1000000 in
theorem ct_binf (l : Launch) (Z : State) (a0 : Array Value) (hw : ∀ d ∈ tables_1, d.before a0 Z = true) (n0 : Nat) (sb va : Addr) (kv : ClassId) (cs : List Int32) (h0 : Heap) (hz : n0 ≤ h0.size) (O : Old Z n0 h0) (z : Int32) (S_cs : Sta Z Z.heap "java/lang/String" "COMPACT_STRINGS" "Z" (.int z)) (hcs : ¬ z = 0) (S_ad : Sta Z Z.heap "java/lang/StringUTF16" "$assertionsDisabled" "Z" (.int (1 : Int32))) (S_hi : Sta Z Z.heap "java/lang/StringUTF16" "HI_BYTE_SHIFT" "I" (.int (0 : Int32))) (S_lo : Sta Z Z.heap "java/lang/StringUTF16" "LO_BYTE_SHIFT" "I" (.int (8 : Int32))) (vf : Value) (hvf : vf.isRef = true) (S_f : Sta Z Z.heap "jdk/internal/util/Preconditions" "SIOOBE_FORMATTER" "Ljava/util/function/BiFunction;" vf) (hL : ∀ c ∈ cs, 0 ≤ c.toInt ∧ c.toInt < 256) (hl : cs.length ≤ 16) (g_sb : n0 ≤ sb) (nsv : sb ≠ va) (S : Sbd Z h0 sb va kv (cs.map own_b)) :
    Ct l Z n0 "java/lang/AbstractStringBuilder" "inflate" "()V" [] jdk_68_method_11_code 2 none R_binf #[.ref sb] h0 (fun v h => v = none ∧ Keep h0 h [sb] ∧ ∃ (vb : Addr) (kb : ClassId), n0 ≤ vb ∧ h0.size ≤ vb ∧ Sbu Z h sb vb kb cs) := by
  obtain ⟨E_sb, F_sb_value, F_sb_coder, F_sb_count, V_va, F_sb_maybeLatin1⟩ := S
  rw [List.length_map] at F_sb_count
  refine Ct.of_go pf_binf (Ls := #[.val (.ref sb), .unset]) (fun m => by first | rfl | (simp [entryFrame, mkF, argsToLocals, Value.category]; done)) ?_
  show GM_binf l Z n0 (fun v h => v = none ∧ Keep h0 h [sb] ∧ ∃ (vb : Addr) (kb : ClassId), n0 ≤ vb ∧ h0.size ≤ vb ∧ Sbu Z h sb vb kb cs) h0 0 0 0 #[.val (.ref sb), .unset] []
  have KK : Keep h0 h0 [sb] := Keep.refl _ _
  refine Go.aloadN d_binf_0 rfl rfl ?_
  -- at pc 1: pc 1: invokevirtual .invokevirtual 83 stack [(.ref sb)]
  refine Go.callV (I' := IN) (hI := nQ) sb [] [] (ct_isL l Z a0 hw n0 sb _ O z S_cs hcs F_sb_coder) E_sb (wd_165 hw) (wd_166 hw) (nf_sel (wd_168 hw)) (wd_168 hw) (wd_167 hw) (wd_94 hw) (wd_169 hw) (by decide) pd_11 rfl rfl rfl (Nat.le_of_ble_eq_true rfl) (Nat.le_of_ble_eq_true rfl) (Nat.le_of_ble_eq_true rfl) (Nat.le_of_ble_eq_true rfl) d_binf_1 ?_
  rintro _ _ ⟨rfl, rfl⟩
  show GM_binf l Z n0 (fun v h => v = none ∧ Keep h0 h [sb] ∧ ∃ (vb : Addr) (kb : ClassId), n0 ≤ vb ∧ h0.size ≤ vb ∧ Sbu Z h sb vb kb cs) h0 0 0 4 #[.val (.ref sb), .unset] [(.int (1 : Int32))]
  -- at pc 4: pc 4: ifCond .ifCond .ne 4 stack [(.int (1 : Int32))]
  -- not: (1 : Int32) = (0 : Int32)
  refine Go.ifT 8 d_binf_4 (feq (by decide)).2 (by decide) (by decide) ?_
  refine Go.aloadN d_binf_8 rfl rfl ?_
  refine Go.getF (wd_98 hw) Via.refl F_sb_value d_binf_9 ?_
  refine Go.arraylength V_va d_binf_12 ?_
  -- at pc 13: pc 13: invokestatic .invokestatic 26 stack [(.int (16 : Int32))]
  have lt_sb := E_sb.lt
  have lt_va := V_va.lt
  refine Go.callS (I' := IN) (hI := nQ) [(.int (16 : Int32))] [] (ct_nbfor l Z a0 hw n0 16 (by decide) _ hz) (wd_248 hw) (wd_228 hw) (wd_18 hw) (wd_229 hw) (by decide) pd_15 rfl rfl rfl (Nat.le_of_ble_eq_true rfl) (Nat.le_of_ble_eq_true rfl) (Nat.le_of_ble_eq_true rfl) (Nat.le_of_ble_eq_true rfl) d_binf_13 ?_
  rintro _ hp49 ⟨vb, kb, rfl, g_vb, s_vb, K49, V_vb⟩
  replace O := O.keep K49 (all0)
  replace E_sb := E_sb.keep K49
  replace F_sb_value := F_sb_value.keep K49 nin0
  replace F_sb_coder := F_sb_coder.keep K49 nin0
  replace F_sb_count := F_sb_count.keep K49 nin0
  replace V_va := V_va.keep K49 nin0
  replace F_sb_maybeLatin1 := F_sb_maybeLatin1.keep K49 nin0
  replace hz : n0 ≤ hp49.size := Nat.le_trans hz K49.1
  replace KK : Keep h0 hp49 [sb] := KK.trans K49 (all0)
  show GM_binf l Z n0 (fun v h => v = none ∧ Keep h0 h [sb] ∧ ∃ (vb : Addr) (kb : ClassId), n0 ≤ vb ∧ h0.size ≤ vb ∧ Sbu Z h sb vb kb cs) hp49 1 32 16 #[.val (.ref sb), .unset] [(.ref vb)]
  have ne_sb_vb : sb ≠ vb := (Nat.ne_of_lt (Nat.lt_of_lt_of_le lt_sb s_vb))
  have ne_va_vb : va ≠ vb := (Nat.ne_of_lt (Nat.lt_of_lt_of_le lt_va s_vb))
  refine Go.astoreN (Ls' := #[.val (.ref sb), .val (.ref vb)]) d_binf_16 rfl rfl ?_
  refine Go.aloadN d_binf_17 rfl rfl ?_
  refine Go.getF (wd_98 hw) Via.refl F_sb_value d_binf_18 ?_
  refine Go.iconst 0 d_binf_21 rfl ?_
  refine Go.aloadN d_binf_22 rfl rfl ?_
  refine Go.iconst 0 d_binf_23 rfl ?_
  refine Go.aloadN d_binf_24 rfl rfl ?_
  refine Go.getF (wd_122 hw) Via.refl F_sb_count d_binf_25 ?_
  -- at pc 28: pc 28: invokestatic .invokestatic 125 stack [(.int (Int32.ofNat cs.length)), (.int (0 : Int32)), (.ref vb), (.int (0 : Int32)), (.ref va)]
  refine Go.callS (I' := IN) (hI := nQ) [(.ref va), (.int (0 : Int32)), (.ref vb), (.int (0 : Int32)), (.int (Int32.ofNat cs.length))] [] (ct_linf l Z a0 hw n0 va vb kv kb cs [] (16 : Int32) 16 _ hz O S_ad S_hi S_lo vf hvf S_f hL (by decide) (by simpa using hl) g_vb ne_va_vb (fun i hi => (own_idx (n := i) (m := 16) (by omega) (by decide)).2) V_va V_vb) (wd_249 hw) (wd_250 hw) (wd_219 hw) (wd_251 hw) (by decide) pd_26 rfl rfl rfl (Nat.le_of_ble_eq_true rfl) (Nat.le_of_ble_eq_true rfl) (Nat.le_of_ble_eq_true rfl) (Nat.le_of_ble_eq_true rfl) d_binf_28 ?_
  rintro _ hp50 ⟨rfl, K50, V2⟩
  replace O := O.keep K50 (allS g_vb (all0))
  replace E_sb := E_sb.keep K50
  replace F_sb_value := F_sb_value.keep K50 (ninS ne_sb_vb nin0)
  replace F_sb_coder := F_sb_coder.keep K50 (ninS ne_sb_vb nin0)
  replace F_sb_count := F_sb_count.keep K50 (ninS ne_sb_vb nin0)
  replace V_va := V_va.keep K50 (ninS ne_va_vb nin0)
  replace F_sb_maybeLatin1 := F_sb_maybeLatin1.keep K50 (ninS ne_sb_vb nin0)
  replace hz : n0 ≤ hp50.size := Nat.le_trans hz K50.1
  replace KK : Keep h0 hp50 [sb] := KK.trans K50 (allS (Or.inr s_vb) (all0))
  show GM_binf l Z n0 (fun v h => v = none ∧ Keep h0 h [sb] ∧ ∃ (vb : Addr) (kb : ClassId), n0 ≤ vb ∧ h0.size ≤ vb ∧ Sbu Z h sb vb kb cs) hp50 1 32 31 #[.val (.ref sb), .val (.ref vb)] []
  refine Go.aloadN d_binf_31 rfl rfl ?_
  refine Go.aloadN d_binf_32 rfl rfl ?_
  refine Go.putF (I' := IN) (hI := nI) (wd_98 hw) Via.refl F_sb_value E_sb (Or.inl (wd_99 hw)) (wd_85 hw) (ty := (.array .byte)) (by decide) rfl rfl g_sb d_binf_33 fun hp51 W51 => ?_
  have K51 := Keep.of_wr W51
  replace F_sb_value := F_sb_value.same W51
  replace F_sb_coder := F_sb_coder.other W51 (Or.inr (slot_ne (Or.inl (wd_101 hw)) (Or.inl (wd_99 hw)) (by decide) (t := .byte) (t' := (.array .byte)) (by decide) (by decide)))
  replace F_sb_count := F_sb_count.other W51 (Or.inr (slot_ne (Or.inl (wd_123 hw)) (Or.inl (wd_99 hw)) (by decide) (t := .int) (t' := (.array .byte)) (by decide) (by decide)))
  replace F_sb_maybeLatin1 := F_sb_maybeLatin1.other W51 (Or.inr (slot_ne (Or.inl (wd_271 hw)) (Or.inl (wd_99 hw)) (by decide) (t := .boolean) (t' := (.array .byte)) (by decide) (by decide)))
  replace O := O.keep K51 (allS g_sb (all0))
  replace E_sb := E_sb.keep K51
  replace V_va := V_va.keep K51 (ninS (Ne.symm nsv) nin0)
  replace V2 := V2.keep K51 (ninS (Ne.symm ne_sb_vb) nin0)
  replace hz : n0 ≤ hp51.size := Nat.le_trans hz K51.1
  replace KK : Keep h0 hp51 [sb] := KK.trans K51 (allS (Or.inl (by simp)) (all0))
  refine Go.aloadN d_binf_36 rfl rfl ?_
  refine Go.iconst 1 d_binf_37 rfl ?_
  refine Go.putFN (I' := IN) (hI := nI) (v' := (.int (1 : Int32))) (wd_100 hw) Via.refl F_sb_coder E_sb (Or.inl (wd_101 hw)) (wd_85 hw) (ty := .byte) (by decide) rfl rfl g_sb d_binf_38 fun hp52 W52 => ?_
  have K52 := Keep.of_wr W52
  replace F_sb_value := F_sb_value.other W52 (Or.inr (slot_ne (Or.inl (wd_99 hw)) (Or.inl (wd_101 hw)) (by decide) (t := (.array .byte)) (t' := .byte) (by decide) (by decide)))
  replace F_sb_coder := F_sb_coder.same W52
  replace F_sb_count := F_sb_count.other W52 (Or.inr (slot_ne (Or.inl (wd_123 hw)) (Or.inl (wd_101 hw)) (by decide) (t := .int) (t' := .byte) (by decide) (by decide)))
  replace F_sb_maybeLatin1 := F_sb_maybeLatin1.other W52 (Or.inr (slot_ne (Or.inl (wd_271 hw)) (Or.inl (wd_101 hw)) (by decide) (t := .boolean) (t' := .byte) (by decide) (by decide)))
  replace O := O.keep K52 (allS g_sb (all0))
  replace E_sb := E_sb.keep K52
  replace V_va := V_va.keep K52 (ninS (Ne.symm nsv) nin0)
  replace V2 := V2.keep K52 (ninS (Ne.symm ne_sb_vb) nin0)
  replace hz : n0 ≤ hp52.size := Nat.le_trans hz K52.1
  replace KK : Keep h0 hp52 [sb] := KK.trans K52 (allS (Or.inl (by simp)) (all0))
  -- at pc 41: pc 41: return .return_ stack []
  exact Go.return_ d_binf_41 rfl (by decide) (by decide) ⟨rfl, KK, vb, kb, g_vb, s_vb, E_sb, F_sb_value, F_sb_coder, F_sb_count, V2, F_sb_maybeLatin1⟩
theorem ct_scoder1 (l : Launch) (Z : State) (a0 : Array Value) (hw : ∀ d ∈ tables_1, d.before a0 Z = true) (n0 : Nat) (x : Addr) (h0 : Heap) (O : Old Z n0 h0) (z : Int32) (S_cs : Sta Z Z.heap "java/lang/String" "COMPACT_STRINGS" "Z" (.int z)) (hcs : ¬ z = 0) (F : Fld Z h0 x "java/lang/String" "coder" "B" (.int (1 : Int32))) : Ct l Z n0 "java/lang/String" "coder" "()B" [] jdk_42_method_152_code 1 (some .byte) R_scoder #[.ref x] h0 (fun v h => v = some (.int (1 : Int32)) ∧ h0 = h) := by
  refine Ct.of_go pf_scoder (Ls := #[.val (.ref x)]) (fun m => by first | rfl | (simp [entryFrame, mkF, argsToLocals, Value.category]; done)) ?_
  show GM_scoder l Z n0 (fun v h => v = some (.int (1 : Int32)) ∧ h0 = h) h0 0 0 0 #[.val (.ref x)] []
  refine Go.getS (wd_15 hw) Via.refl (S_cs.ext O.2) d_scoder_0 ?_
  -- at pc 3: pc 3: ifCond .ifCond .eq 10 stack [(.int z)]
  -- not: z = (0 : Int32)
  refine Go.ifF d_scoder_3 (feq (hcs)).1 ?_
  refine Go.aloadN d_scoder_6 rfl rfl ?_
  refine Go.getF (wd_27 hw) Via.refl F d_scoder_7 ?_
  refine Go.goto 14 d_scoder_10 (by decide) (by decide) ?_
  -- at pc 14: pc 14: ireturn .ireturn stack [(.int (1 : Int32))]
  exact Go.nreturn .byte d_scoder_14 rfl (by simp) (by decide) (by decide) ⟨rfl, rfl⟩
theorem ct_slen1 (l : Launch) (Z : State) (a0 : Array Value) (hw : ∀ d ∈ tables_1, d.before a0 Z = true) (n0 : Nat) (x t : Addr) (kt : ClassId) (cs : List Int32) (h0 : Heap) (O : Old Z n0 h0) (z : Int32) (S_cs : Sta Z Z.heap "java/lang/String" "COMPACT_STRINGS" "Z" (.int z)) (hcs : ¬ z = 0) (hl : cs.length < 2 ^ 29) (B : Byu Z h0 x t kt cs) : Ct l Z n0 "java/lang/String" "length" "()I" [] jdk_42_method_54_code 1 (some .int) R_slen #[.ref x] h0 (fun v h => v = some (.int (Int32.ofNat cs.length)) ∧ h0 = h) := by
  obtain ⟨E_x, F_x_coder, F_x_value, V_t⟩ := B
  refine Ct.of_go pf_slen (Ls := #[.val (.ref x)]) (fun m => by first | rfl | (simp [entryFrame, mkF, argsToLocals, Value.category]; done)) ?_
  show GM_slen l Z n0 (fun v h => v = some (.int (Int32.ofNat cs.length)) ∧ h0 = h) h0 0 0 0 #[.val (.ref x)] []
  refine Go.aloadN d_slen_0 rfl rfl ?_
  refine Go.getF (wd_29 hw) Via.refl F_x_value d_slen_1 ?_
  refine Go.arraylength V_t d_slen_4 ?_
  refine Go.aloadN d_slen_5 rfl rfl ?_
  -- at pc 6: pc 6: invokevirtual .invokevirtual 335 stack [(.ref x), (.int (Int32.ofNat (2 * cs.length)))]
  refine Go.callV (I' := IN) (hI := nQ) x [] [(.int (Int32.ofNat (2 * cs.length)))] (ct_scoder1 l Z a0 hw n0 x _ O z S_cs hcs F_x_coder) E_x (wd_117 hw) (wd_118 hw) (nf_sel (wd_120 hw)) (wd_120 hw) (wd_119 hw) (wd_3 hw) (wd_121 hw) (by decide) pd_0 rfl rfl rfl (Nat.le_of_ble_eq_true rfl) (Nat.le_of_ble_eq_true rfl) (Nat.le_of_ble_eq_true rfl) (Nat.le_of_ble_eq_true rfl) d_slen_6 ?_
  rintro _ _ ⟨rfl, rfl⟩
  show GM_slen l Z n0 (fun v h => v = some (.int (Int32.ofNat cs.length)) ∧ h0 = h) h0 0 0 9 #[.val (.ref x)] [(.int (1 : Int32)), (.int (Int32.ofNat (2 * cs.length)))]
  refine Go.ishr d_slen_9 ?_
  rw [show ((Int32.ofNat (2 * cs.length)) >>> ((1 : Int32) &&& 31)) = (Int32.ofNat cs.length) from (own_shr1 hl)]
  exact Go.ireturn d_slen_10 rfl (by decide) (by decide) ⟨rfl, rfl⟩
theorem ct_isL0 (l : Launch) (Z : State) (a0 : Array Value) (hw : ∀ d ∈ tables_1, d.before a0 Z = true) (n0 : Nat) (sb : Addr) (h0 : Heap) (O : Old Z n0 h0) (z : Int32) (S_cs : Sta Z Z.heap "java/lang/String" "COMPACT_STRINGS" "Z" (.int z)) (hcs : ¬ z = 0) (F_sb_coder : Fld Z h0 sb "java/lang/AbstractStringBuilder" "coder" "B" (.int (1 : Int32))) : Ct l Z n0 "java/lang/AbstractStringBuilder" "isLatin1" "()Z" [] jdk_68_method_68_code 1 (some .boolean) R_isL #[.ref sb] h0 (fun v h => v = some (.int (0 : Int32)) ∧ h0 = h) := by
  refine Ct.of_go pf_isL (Ls := #[.val (.ref sb)]) (fun m => by first | rfl | (simp [entryFrame, mkF, argsToLocals, Value.category]; done)) ?_
  show GM_isL l Z n0 (fun v h => v = some (.int (0 : Int32)) ∧ h0 = h) h0 0 0 0 #[.val (.ref sb)] []
  refine Go.getS (wd_97 hw) Via.refl (S_cs.ext O.2) d_isL_0 ?_
  -- at pc 3: pc 3: ifCond .ifCond .eq 14 stack [(.int z)]
  -- not: z = (0 : Int32)
  refine Go.ifF d_isL_3 (feq (hcs)).1 ?_
  refine Go.aloadN d_isL_6 rfl rfl ?_
  refine Go.getF (wd_100 hw) Via.refl F_sb_coder d_isL_7 ?_
  -- at pc 10: pc 10: ifCond .ifCond .ne 7 stack [(.int (1 : Int32))]
  -- not: (1 : Int32) = (0 : Int32)
  refine Go.ifT 17 d_isL_10 (feq (by decide)).2 (by decide) (by decide) ?_
  refine Go.iconst 0 d_isL_17 rfl ?_
  -- at pc 18: pc 18: ireturn .ireturn stack [(.int (0 : Int32))]
  exact Go.nreturn .boolean d_isL_18 rfl (by simp) (by decide) (by decide) ⟨rfl, rfl⟩
theorem ct_binf1 (l : Launch) (Z : State) (a0 : Array Value) (hw : ∀ d ∈ tables_1, d.before a0 Z = true) (n0 : Nat) (sb : Addr) (h0 : Heap) (O : Old Z n0 h0) (z : Int32) (S_cs : Sta Z Z.heap "java/lang/String" "COMPACT_STRINGS" "Z" (.int z)) (hcs : ¬ z = 0) (E_sb : Exa Z h0 sb "java/lang/StringBuilder") (F_sb_coder : Fld Z h0 sb "java/lang/AbstractStringBuilder" "coder" "B" (.int (1 : Int32))) : Ct l Z n0 "java/lang/AbstractStringBuilder" "inflate" "()V" [] jdk_68_method_11_code 2 none R_binf #[.ref sb] h0 (fun v h => v = none ∧ h0 = h) := by
  refine Ct.of_go pf_binf (Ls := #[.val (.ref sb), .unset]) (fun m => by first | rfl | (simp [entryFrame, mkF, argsToLocals, Value.category]; done)) ?_
  show GM_binf l Z n0 (fun v h => v = none ∧ h0 = h) h0 0 0 0 #[.val (.ref sb), .unset] []
  refine Go.aloadN d_binf_0 rfl rfl ?_
  -- at pc 1: pc 1: invokevirtual .invokevirtual 83 stack [(.ref sb)]
  refine Go.callV (I' := IN) (hI := nQ) sb [] [] (ct_isL0 l Z a0 hw n0 sb _ O z S_cs hcs F_sb_coder) E_sb (wd_165 hw) (wd_166 hw) (nf_sel (wd_168 hw)) (wd_168 hw) (wd_167 hw) (wd_94 hw) (wd_169 hw) (by decide) pd_11 rfl rfl rfl (Nat.le_of_ble_eq_true rfl) (Nat.le_of_ble_eq_true rfl) (Nat.le_of_ble_eq_true rfl) (Nat.le_of_ble_eq_true rfl) d_binf_1 ?_
  rintro _ _ ⟨rfl, rfl⟩
  show GM_binf l Z n0 (fun v h => v = none ∧ h0 = h) h0 0 0 4 #[.val (.ref sb), .unset] [(.int (0 : Int32))]
  -- at pc 4: pc 4: ifCond .ifCond .ne 4 stack [(.int (0 : Int32))]
  -- (0 : Int32) = (0 : Int32)
  refine Go.ifF d_binf_4 (teq (rfl)).2 ?_
  -- at pc 7: pc 7: return .return_ stack []
  exact Go.return_ d_binf_7 rfl (by decide) (by decide) ⟨rfl, rfl⟩
theorem ct_ecap1 (l : Launch) (Z : State) (a0 : Array Value) (hw : ∀ d ∈ tables_1, d.before a0 Z = true) (n0 : Nat) (sb va : Addr) (kv : ClassId) (cs : List Int32) (m : Int32) (h0 : Heap) (B : Sbu Z h0 sb va kv cs) (hm : ¬ (0 : Int32) < m - (16 : Int32)) : Ct l Z n0 "java/lang/AbstractStringBuilder" "ensureCapacityInternal" "(I)V" [] jdk_68_method_9_code 3 none R_ecap #[.ref sb, .int m] h0 (fun v h => v = none ∧ h0 = h) := by
  obtain ⟨E_sb, F_sb_value, F_sb_coder, F_sb_count, V_va, F_sb_maybeLatin1⟩ := B
  refine Ct.of_go pf_ecap (Ls := #[.val (.ref sb), .val (.int m), .unset]) (fun m => by first | rfl | (simp [entryFrame, mkF, argsToLocals, Value.category]; done)) ?_
  show GM_ecap l Z n0 (fun v h => v = none ∧ h0 = h) h0 0 0 0 #[.val (.ref sb), .val (.int m), .unset] []
  refine Go.aloadN d_ecap_0 rfl rfl ?_
  refine Go.getF (wd_98 hw) Via.refl F_sb_value d_ecap_1 ?_
  refine Go.arraylength V_va d_ecap_4 ?_
  refine Go.aloadN d_ecap_5 rfl rfl ?_
  refine Go.getF (wd_100 hw) Via.refl F_sb_coder d_ecap_6 ?_
  refine Go.ishr d_ecap_9 ?_
  rw [show ((Int32.ofNat (2 * 16)) >>> ((1 : Int32) &&& 31)) = (16 : Int32) from (by decide)]
  refine Go.istoreN (Ls' := #[.val (.ref sb), .val (.int m), .val (.int (16 : Int32))]) d_ecap_10 rfl ?_
  refine Go.iloadN d_ecap_11 rfl ?_
  refine Go.iloadN d_ecap_12 rfl ?_
  refine Go.isub d_ecap_13 ?_
  -- at pc 14: pc 14: ifCond .ifCond .le 24 stack [(.int (m - (16 : Int32)))]
  -- not: (0 : Int32) < (m - (16 : Int32))
  refine Go.ifT 38 d_ecap_14 (flt (hm)).2.2.2 (by decide) (by decide) ?_
  -- at pc 38: pc 38: return .return_ stack []
  exact Go.return_ d_ecap_38 rfl (by decide) (by decide) ⟨rfl, rfl⟩
-- PART utf3
theorem Byu.keep {Z : State} {h h' : Heap} {x t : Addr} {kb : ClassId} {cs : List Int32} {ws : List Addr} (F : Byu Z h x t kb cs) (K : Keep h h' ws) (q : x ∉ ws) (r : t ∉ ws) : Byu Z h' x t kb cs := ⟨F.1.keep K, F.2.1.keep K q, F.2.2.1.keep K q, F.2.2.2.keep K r⟩
theorem Byu.lt {Z : State} {h : Heap} {x t : Addr} {kb : ClassId} {cs : List Int32} (F : Byu Z h x t kb cs) : x < h.size := F.1.lt
theorem Byu.lt2 {Z : State} {h : Heap} {x t : Addr} {kb : ClassId} {cs : List Int32} (F : Byu Z h x t kb cs) : t < h.size := F.2.2.2.lt
/-- chars below 256 -/
def Lat (cs : List Int32) : Prop := ∀ c ∈ cs, c.toInt < 256
/-- chars -/
def Chr (cs : List Int32) : Prop := ∀ c ∈ cs, 0 ≤ c.toInt ∧ c.toInt < 65536
theorem Lat.nil : Lat [] := fun c h => nomatch h
theorem Chr.nil : Chr [] := fun c h => nomatch h
theorem Chr.cons {c : Int32} {r : List Int32} (h : 0 ≤ c.toInt ∧ c.toInt < 65536) (q : Chr r) : Chr (c :: r) := fun x hx => by
  rcases List.mem_cons.mp hx with rfl | hx
  · exact h
  · exact q x hx
theorem Lat.cons {c : Int32} {r : List Int32} (h : c.toInt < 256) (q : Lat r) : Lat (c :: r) := fun x hx => by
  rcases List.mem_cons.mp hx with rfl | hx
  · exact h
  · exact q x hx
theorem Lat.app {P Q : List Int32} (h : Lat P) (q : Lat Q) : Lat (P ++ Q) := fun x hx => (List.mem_append.mp hx).elim (h x) (q x)
theorem Chr.app {P Q : List Int32} (h : Chr P) (q : Chr Q) : Chr (P ++ Q) := fun x hx => (List.mem_append.mp hx).elim (h x) (q x)
theorem Lat.left {P Q : List Int32} (h : Lat (P ++ Q)) : Lat P := fun x hx => h x (List.mem_append.mpr (Or.inl hx))
theorem Lat.right {P Q : List Int32} (h : Lat (P ++ Q)) : Lat Q := fun x hx => h x (List.mem_append.mpr (Or.inr hx))
theorem Lat.both {P : List Int32} (h : Lat P) (q : Chr P) : ∀ c ∈ P, 0 ≤ c.toInt ∧ c.toInt < 256 := fun c hc => ⟨(q c hc).1, h c hc⟩
theorem own_le255 {c : Int32} (h : c.toInt < 256) : ¬ (255 : Int32) < c := by
  rw [Int32.lt_iff_toInt_lt]
  have e : (255 : Int32).toInt = 255 := rfl
  omega
theorem own_gt255 {c : Int32} (h : ¬ c.toInt < 256) : (255 : Int32) < c := by
  rw [Int32.lt_iff_toInt_lt]
  have e : (255 : Int32).toInt = 255 := rfl
  omega
theorem own_first : ∀ cs : List Int32, ¬ Lat cs → ∃ P c R, cs = P ++ c :: R ∧ (∀ x ∈ P, ¬ (255 : Int32) < x) ∧ (255 : Int32) < c
  | [], h => (h Lat.nil).elim
  | x :: r, h => by
    by_cases hx : x.toInt < 256
    · obtain ⟨P, c, R, e, h1, h2⟩ := own_first r (fun q => h (Lat.cons hx q))
      refine ⟨x :: P, c, R, by rw [e]; rfl, fun y hy => ?_, h2⟩
      rcases List.mem_cons.mp hy with rfl | hy
      · exact own_le255 hx
      · exact h1 y hy
    · exact ⟨[], x, r, rfl, (fun _ q => nomatch q), own_gt255 hx⟩
/-- a String as new String(char[]) makes it: one byte a char if all are below 256, else two -/
def Cst (Z : State) (h : Heap) (x t : Addr) (kb : ClassId) (cs : List Int32) : Prop := (Lat cs ∧ Byt Z h x t kb (cs.map own_b)) ∨ (¬ Lat cs ∧ Byu Z h x t kb cs)
theorem Cst.keep {Z : State} {h h' : Heap} {x t : Addr} {kb : ClassId} {cs : List Int32} {ws : List Addr} (F : Cst Z h x t kb cs) (K : Keep h h' ws) (q : x ∉ ws) (r : t ∉ ws) : Cst Z h' x t kb cs := F.imp (fun ⟨a, B⟩ => ⟨a, B.keep K q r⟩) (fun ⟨a, B⟩ => ⟨a, B.keep K q r⟩)
theorem Cst.exa {Z : State} {h : Heap} {x t : Addr} {kb : ClassId} {cs : List Int32} (F : Cst Z h x t kb cs) : Exa Z h x "java/lang/String" := F.elim (fun F => F.2.1) (fun F => F.2.1)
theorem Cst.lt {Z : State} {h : Heap} {x t : Addr} {kb : ClassId} {cs : List Int32} (F : Cst Z h x t kb cs) : x < h.size := F.exa.lt
theorem Cst.lt2 {Z : State} {h : Heap} {x t : Addr} {kb : ClassId} {cs : List Int32} (F : Cst Z h x t kb cs) : t < h.size := F.elim (fun F => F.2.lt2) (fun F => F.2.lt2)
set_option maxHeartbeats 2000000 in
theorem ct_cmprL (l : Launch) (Z : State) (a0 : Array Value) (hw : ∀ d ∈ tables_1, d.before a0 Z = true) (n0 : Nat) (ca da : Addr) (kc kd : ClassId) (cs : List Int32) (h0 : Heap) (hn : cs.length ≤ 16) (hP : ∀ x ∈ cs, ¬ (255 : Int32) < x) (g_da : n0 ≤ da) (ncd : ca ≠ da) (V_ca : Arv Z h0 ca kc .char (Int32.ofNat cs.length) (cs.map Value.int) (.int (0 : Int32))) (V_da : Arv Z h0 da kd .byte (Int32.ofNat cs.length) (([] : List Int32).map Value.int) (.int (0 : Int32))) :
    Ct l Z n0 "java/lang/StringUTF16" "compress" "([CI[BII)I" [] jdk_52_method_21_code 7 (some .int) R_cmpr #[.ref ca, .int (0 : Int32), .ref da, .int (0 : Int32), .int (Int32.ofNat cs.length)] h0 (fun v h => v = some (.int (Int32.ofNat cs.length)) ∧ Keep h0 h [da] ∧ Arv Z h da kd .byte (Int32.ofNat cs.length) ((cs.map own_b).map Value.int) (.int (0 : Int32))) := by
  have V_ca0 := V_ca
  refine Ct.of_go pf_cmpr (Ls := #[.val (.ref ca), .val (.int (0 : Int32)), .val (.ref da), .val (.int (0 : Int32)), .val (.int (Int32.ofNat cs.length)), .unset, .unset]) (fun m => by first | rfl | (simp [entryFrame, mkF, argsToLocals, Value.category]; done)) ?_
  show GM_cmpr l Z n0 (fun v h => v = some (.int (Int32.ofNat cs.length)) ∧ Keep h0 h [da] ∧ Arv Z h da kd .byte (Int32.ofNat cs.length) ((cs.map own_b).map Value.int) (.int (0 : Int32))) h0 0 0 0 #[.val (.ref ca), .val (.int (0 : Int32)), .val (.ref da), .val (.int (0 : Int32)), .val (.int (Int32.ofNat cs.length)), .unset, .unset] []
  have KK : Keep h0 h0 [da] := Keep.refl _ _
  refine Go.iconst 0 d_cmpr_0 rfl ?_
  refine Go.istore (Ls' := #[.val (.ref ca), .val (.int (0 : Int32)), .val (.ref da), .val (.int (0 : Int32)), .val (.int (Int32.ofNat cs.length)), .val (.int (0 : Int32)), .unset]) d_cmpr_1 rfl ?_
  have loop : ∀ (Q : List Int32) (i : Nat) (B : List Int32) (sl : Slot) (h : Heap), cs.drop i = Q → i + Q.length = cs.length → B = (cs.take i).map own_b → B.length = i → One sl → Keep h0 h [da] → Arv Z h da kd .byte (Int32.ofNat cs.length) (B.map Value.int) (.int (0 : Int32)) → GM_cmpr l Z n0 (fun v h => v = some (.int (Int32.ofNat cs.length)) ∧ Keep h0 h [da] ∧ Arv Z h da kd .byte (Int32.ofNat cs.length) ((cs.map own_b).map Value.int) (.int (0 : Int32))) h 0 0 3 #[.val (.ref ca), .val (.int (Int32.ofNat i)), .val (.ref da), .val (.int (Int32.ofNat i)), .val (.int (Int32.ofNat cs.length)), .val (.int (Int32.ofNat i)), sl] [] := by
    clear V_ca V_da KK
    intro Q
    induction Q with
    | nil =>
      intro i B sl h hd hi hB hBl o_sl KK V_da
      have hie : i = cs.length := by simpa using hi
      refine Go.iload d_cmpr_3 rfl ?_
      refine Go.iload d_cmpr_5 rfl ?_
      -- at pc 7: pc 7: if_icmp .if_icmp .ge 37 stack [(.int (Int32.ofNat cs.length)), (.int (Int32.ofNat i))]
      -- not: (Int32.ofNat i) < (Int32.ofNat cs.length)
      refine Go.icT 44 d_cmpr_7 (flt ((by rw [hie]; exact own_irr _))).2.1 (by decide) (by decide) ?_
      refine Go.iload d_cmpr_44 rfl ?_
      -- at pc 46: pc 46: ireturn .ireturn stack [(.int (Int32.ofNat cs.length))]
      exact Go.ireturn d_cmpr_46 rfl (by decide) (by decide) ⟨rfl, KK, by rw [hB, hie, List.take_length] at V_da; exact V_da⟩
    | cons x Q ih =>
      intro i B sl h hd hi hB hBl o_sl KK V_da
      have V_ca := V_ca0.keep KK (ninS ncd nin0)
      have hci : cs[i]? = some x := by
        have := congrArg (fun L => L[0]?) hd
        simpa using this
      have hil : i < cs.length := (List.getElem?_eq_some_iff.mp hci).1
      have hxm : x ∈ cs := List.mem_of_getElem? hci
      have hd' : cs.drop (i + 1) = Q := by rw [← List.drop_drop, hd]; rfl
      refine Go.iload d_cmpr_3 rfl ?_
      refine Go.iload d_cmpr_5 rfl ?_
      -- at pc 7: pc 7: if_icmp .if_icmp .ge 37 stack [(.int (Int32.ofNat cs.length)), (.int (Int32.ofNat i))]
      -- (Int32.ofNat i) < (Int32.ofNat cs.length)
      refine Go.icF d_cmpr_7 (tlt ((own_idx hil (by omega)).2)).2.1 ?_
      refine Go.aloadN d_cmpr_10 rfl rfl ?_
      refine Go.iloadN d_cmpr_11 rfl ?_
      -- at pc 12: pc 12: caload of ca at (Int32.ofNat i): '!aload value ; bounds ; getD'
      refine Go.caload (.int x) V_ca (own_idx hil (by omega)) (by rw [own_clamp (by omega), List.getD_eq_getElem?_getD, List.getElem?_map, hci]; rfl) d_cmpr_12 ?_
      refine Go.istore (Ls' := #[.val (.ref ca), .val (.int (Int32.ofNat i)), .val (.ref da), .val (.int (Int32.ofNat i)), .val (.int (Int32.ofNat cs.length)), .val (.int (Int32.ofNat i)), .val (.int x)]) d_cmpr_13 (st_at rfl o_sl rfl rfl) ?_
      refine Go.iload d_cmpr_15 rfl ?_
      refine Go.sipush 255 d_cmpr_17 rfl ?_
      -- at pc 20: pc 20: if_icmp .if_icmp .le 6 stack [(.int (255 : Int32)), (.int x)]
      -- not: (255 : Int32) < x
      refine Go.icT 26 d_cmpr_20 (flt ((hP x hxm))).2.2.2 (by decide) (by decide) ?_
      refine Go.aloadN d_cmpr_26 rfl rfl ?_
      refine Go.iloadN d_cmpr_27 rfl ?_
      refine Go.iload d_cmpr_28 rfl ?_
      refine Go.i2b d_cmpr_30 ?_
      refine Go.bastore (I' := IN) (hI := nI) (V_da.pad (pad_rep _ _ (cs.length - B.length))) (own_idx hil (by omega)) g_da B.length (by rw [own_clamp (by omega)]; omega) (by simp; omega) d_cmpr_31 fun h1 K1 V1 => ?_
      rw [own_b8] at V1
      replace V1 := own_setp (m := cs.length) (cs := B) (by omega) V1
      show GM_cmpr l Z n0 (fun v h => v = some (.int (Int32.ofNat cs.length)) ∧ Keep h0 h [da] ∧ Arv Z h da kd .byte (Int32.ofNat cs.length) ((cs.map own_b).map Value.int) (.int (0 : Int32))) h1 0 0 32 #[.val (.ref ca), .val (.int (Int32.ofNat i)), .val (.ref da), .val (.int (Int32.ofNat i)), .val (.int (Int32.ofNat cs.length)), .val (.int (Int32.ofNat i)), .val (.int x)] []
      refine Go.iinc (Ls' := #[.val (.ref ca), .val (.int ((Int32.ofNat i) + (1 : Int32))), .val (.ref da), .val (.int (Int32.ofNat i)), .val (.int (Int32.ofNat cs.length)), .val (.int (Int32.ofNat i)), .val (.int x)]) (1 : Int32) rfl d_cmpr_32 rfl rfl ?_
      refine Go.iinc (Ls' := #[.val (.ref ca), .val (.int ((Int32.ofNat i) + (1 : Int32))), .val (.ref da), .val (.int ((Int32.ofNat i) + (1 : Int32))), .val (.int (Int32.ofNat cs.length)), .val (.int (Int32.ofNat i)), .val (.int x)]) (1 : Int32) rfl d_cmpr_35 rfl rfl ?_
      refine Go.iinc (Ls' := #[.val (.ref ca), .val (.int ((Int32.ofNat i) + (1 : Int32))), .val (.ref da), .val (.int ((Int32.ofNat i) + (1 : Int32))), .val (.int (Int32.ofNat cs.length)), .val (.int ((Int32.ofNat i) + (1 : Int32))), .val (.int x)]) (1 : Int32) rfl d_cmpr_38 rfl rfl ?_
      rw [show ((Int32.ofNat i) + (1 : Int32)) = (Int32.ofNat (i + 1)) from (own_of1 _)]
      refine Go.goto 3 d_cmpr_41 (by decide) (by decide) ?_
      exact ih (i + 1) (B ++ [x.toInt8.toInt32]) _ h1 hd' (by simp only [List.length_cons] at hi; omega) (by rw [hB, List.take_add_one, hci, List.map_append]; rfl) (by rw [List.length_append, hBl]; rfl) (One.val rfl) (KK.trans K1 (fun y hy => Or.inl hy)) V1
  exact loop cs 0 [] _ h0 rfl (by simp) rfl rfl One.u (Keep.refl _ _) V_da
theorem ct_cmp2L (l : Launch) (Z : State) (a0 : Array Value) (hw : ∀ d ∈ tables_1, d.before a0 Z = true) (n0 : Nat) (ca : Addr) (kc : ClassId) (cs : List Int32) (h0 : Heap) (hz : n0 ≤ h0.size) (hn : cs.length ≤ 16) (hP : ∀ x ∈ cs, ¬ (255 : Int32) < x) (V_ca : Arv Z h0 ca kc .char (Int32.ofNat cs.length) (cs.map Value.int) (.int (0 : Int32))) :
    Ct l Z n0 "java/lang/StringUTF16" "compress" "([CII)[B" [] jdk_52_method_16_code 6 (some (.array .byte)) R_cmp2 #[.ref ca, .int (0 : Int32), .int (Int32.ofNat cs.length)] h0 (fun v h => ∃ (b : Addr) (k : ClassId), v = some (.ref b) ∧ n0 ≤ b ∧ h0.size ≤ b ∧ Keep h0 h [] ∧ Arv Z h b k .byte (Int32.ofNat cs.length) ((cs.map own_b).map Value.int) (.int (0 : Int32))) := by
  refine Ct.of_go pf_cmp2 (Ls := #[.val (.ref ca), .val (.int (0 : Int32)), .val (.int (Int32.ofNat cs.length)), .unset, .unset, .unset]) (fun m => by first | rfl | (simp [entryFrame, mkF, argsToLocals, Value.category]; done)) ?_
  show GM_cmp2 l Z n0 (fun v h => ∃ (b : Addr) (k : ClassId), v = some (.ref b) ∧ n0 ≤ b ∧ h0.size ≤ b ∧ Keep h0 h [] ∧ Arv Z h b k .byte (Int32.ofNat cs.length) ((cs.map own_b).map Value.int) (.int (0 : Int32))) h0 0 0 0 #[.val (.ref ca), .val (.int (0 : Int32)), .val (.int (Int32.ofNat cs.length)), .unset, .unset, .unset] []
  have KK : Keep h0 h0 [] := Keep.refl _ _
  refine Go.iloadN d_cmp2_0 rfl ?_
  -- at pc 1: pc 1: newarray .newarray .byte stack [(.int (Int32.ofNat cs.length))]
  refine Go.newP (I' := IN) (hI := nE) .byte (wd_20 hw) rfl d_cmp2_1 (own_nneg (by omega)) 16 (by rw [own_clamp (by omega)]; omega) (by decide) (by decide) (by decide) fun hp55 da k_da e_da X55 V_da => ?_
  have K55 : Keep h0 hp55 [] := (Keep.refl _ _).ext X55
  have g_da : n0 ≤ da := e_da ▸ hz
  have s_da : h0.size ≤ da := e_da ▸ KK.1
  have ne_ca_da : ca ≠ da := Nat.ne_of_lt (e_da ▸ V_ca.lt)
  replace V_ca := V_ca.keep K55 nin0
  replace hz : n0 ≤ hp55.size := Nat.le_trans hz K55.1
  replace KK : Keep h0 hp55 [] := KK.trans K55 (all0)
  refine Go.astoreN (Ls' := #[.val (.ref ca), .val (.int (0 : Int32)), .val (.int (Int32.ofNat cs.length)), .val (.ref da), .unset, .unset]) d_cmp2_3 rfl rfl ?_
  refine Go.aloadN d_cmp2_4 rfl rfl ?_
  refine Go.iloadN d_cmp2_5 rfl ?_
  refine Go.aloadN d_cmp2_6 rfl rfl ?_
  refine Go.iconst 0 d_cmp2_7 rfl ?_
  refine Go.iloadN d_cmp2_8 rfl ?_
  -- at pc 9: pc 9: invokestatic .invokestatic 115 stack [(.int (Int32.ofNat cs.length)), (.int (0 : Int32)), (.ref da), (.int (0 : Int32)), (.ref ca)]
  refine Go.callS (I' := IN) (hI := nQ) [(.ref ca), (.int (0 : Int32)), (.ref da), (.int (0 : Int32)), (.int (Int32.ofNat cs.length))] [] (ct_cmprL l Z a0 hw n0 ca da kc k_da cs _ hn hP g_da ne_ca_da V_ca V_da) (wd_21 hw) (wd_22 hw) (wd_18 hw) (wd_23 hw) (by decide) pd_17 rfl rfl rfl (Nat.le_of_ble_eq_true rfl) (Nat.le_of_ble_eq_true rfl) (Nat.le_of_ble_eq_true rfl) (Nat.le_of_ble_eq_true rfl) d_cmp2_9 ?_
  rintro _ hp56 ⟨rfl, K56, V1⟩
  replace V_ca := V_ca.keep K56 (ninS ne_ca_da nin0)
  replace hz : n0 ≤ hp56.size := Nat.le_trans hz K56.1
  replace KK : Keep h0 hp56 [] := KK.trans K56 (allS (Or.inr s_da) (all0))
  show GM_cmp2 l Z n0 (fun v h => ∃ (b : Addr) (k : ClassId), v = some (.ref b) ∧ n0 ≤ b ∧ h0.size ≤ b ∧ Keep h0 h [] ∧ Arv Z h b k .byte (Int32.ofNat cs.length) ((cs.map own_b).map Value.int) (.int (0 : Int32))) hp56 1 16 12 #[.val (.ref ca), .val (.int (0 : Int32)), .val (.int (Int32.ofNat cs.length)), .val (.ref da), .unset, .unset] [(.int (Int32.ofNat cs.length))]
  refine Go.istore (Ls' := #[.val (.ref ca), .val (.int (0 : Int32)), .val (.int (Int32.ofNat cs.length)), .val (.ref da), .val (.int (Int32.ofNat cs.length)), .unset]) d_cmp2_12 rfl ?_
  refine Go.iload d_cmp2_14 rfl ?_
  refine Go.iloadN d_cmp2_16 rfl ?_
  -- at pc 17: pc 17: if_icmp .if_icmp .eq 40 stack [(.int (Int32.ofNat cs.length)), (.int (Int32.ofNat cs.length))]
  -- (Int32.ofNat cs.length) = (Int32.ofNat cs.length)
  refine Go.icT 57 d_cmp2_17 (teq (rfl)).1 (by decide) (by decide) ?_
  refine Go.aloadN d_cmp2_57 rfl rfl ?_
  -- at pc 58: pc 58: areturn .areturn stack [(.ref da)]
  exact Go.areturn d_cmp2_58 rfl rfl rfl (by decide) (by decide) ⟨da, k_da, rfl, g_da, s_da, KK, V1⟩
theorem own_c0 (n : Nat) : ((((Int32.ofNat n) - (Int32.ofNat n)).toUInt32 >>> ((31 : Int32) &&& 31).toUInt32).toInt32).toInt8.toInt32 = 0 := by
  rw [Int32.sub_self]; decide
theorem ct_cfal0 (l : Launch) (Z : State) (a0 : Array Value) (hw : ∀ d ∈ tables_1, d.before a0 Z = true) (n0 : Nat) (b : Addr) (kb : ClassId) (n : Nat) (vs : List Value) (dv : Value) (h0 : Heap) (V_b : Arv Z h0 b kb .byte (Int32.ofNat n) vs dv) : Ct l Z n0 "java/lang/StringUTF16" "coderFromArrayLen" "([BI)B" [] jdk_52_method_15_code 2 (some .byte) R_cfal #[.ref b, .int (Int32.ofNat n)] h0 (fun v h => v = some (.int (0 : Int32)) ∧ h0 = h) := by
  refine Ct.of_go pf_cfal (Ls := #[.val (.ref b), .val (.int (Int32.ofNat n))]) (fun m => by first | rfl | (simp [entryFrame, mkF, argsToLocals, Value.category]; done)) ?_
  show GM_cfal l Z n0 (fun v h => v = some (.int (0 : Int32)) ∧ h0 = h) h0 0 0 0 #[.val (.ref b), .val (.int (Int32.ofNat n))] []
  refine Go.iloadN d_cfal_0 rfl ?_
  refine Go.aloadN d_cfal_1 rfl rfl ?_
  refine Go.arraylength V_b d_cfal_2 ?_
  refine Go.isub d_cfal_3 ?_
  refine Go.bipush 31 d_cfal_4 rfl ?_
  refine Go.iushr d_cfal_6 ?_
  refine Go.i2b d_cfal_7 ?_
  rw [own_c0]
  exact Go.nreturn .byte d_cfal_8 rfl (by simp) (by decide) (by decide) ⟨rfl, rfl⟩
set_option maxHeartbeats 1000000 in
theorem ct_si4L (l : Launch) (Z : State) (a0 : Array Value) (hw : ∀ d ∈ tables_1, d.before a0 Z = true) (n0 : Nat) (x ca : Addr) (kc : ClassId) (cs : List Int32) (h0 : Heap) (hz : n0 ≤ h0.size) (O : Old Z n0 h0) (z : Int32) (S_cs : Sta Z Z.heap "java/lang/String" "COMPACT_STRINGS" "Z" (.int z)) (hcs : ¬ z = 0) (hl1 : 1 ≤ cs.length) (hn : cs.length ≤ 16) (hP : ∀ x ∈ cs, ¬ (255 : Int32) < x) (g_x : n0 ≤ x) (nxc : x ≠ ca) (E_x : Exa Z h0 x "java/lang/String") (F_x_value : Fld Z h0 x "java/lang/String" "value" "[B" .null) (F_x_coder : Fld Z h0 x "java/lang/String" "coder" "B" (.int (0 : Int32))) (V_ca : Arv Z h0 ca kc .char (Int32.ofNat cs.length) (cs.map Value.int) (.int (0 : Int32))) :
    Ct l Z n0 "java/lang/String" "<init>" "([CIILjava/lang/Void;)V" [] jdk_42_method_149_code 6 none R_si4u #[.ref x, .ref ca, .int (0 : Int32), .int (Int32.ofNat cs.length), .null] h0 (fun v h => v = none ∧ Keep h0 h [x] ∧ ∃ (t : Addr) (kt : ClassId), n0 ≤ t ∧ h0.size ≤ t ∧ Byt Z h x t kt (cs.map own_b)) := by
  refine Ct.of_go pf_si4u (Ls := #[.val (.ref x), .val (.ref ca), .val (.int (0 : Int32)), .val (.int (Int32.ofNat cs.length)), .val .null, .unset]) (fun m => by first | rfl | (simp [entryFrame, mkF, argsToLocals, Value.category]; done)) ?_
  show GM_si4u l Z n0 (fun v h => v = none ∧ Keep h0 h [x] ∧ ∃ (t : Addr) (kt : ClassId), n0 ≤ t ∧ h0.size ≤ t ∧ Byt Z h x t kt (cs.map own_b)) h0 0 0 0 #[.val (.ref x), .val (.ref ca), .val (.int (0 : Int32)), .val (.int (Int32.ofNat cs.length)), .val .null, .unset] []
  have KK : Keep h0 h0 [x] := Keep.refl _ _
  refine Go.aloadN d_si4u_0 rfl rfl ?_
  refine Go.initO (wd_12 hw) (wd_13 hw) (wd_14 hw) d_si4u_1 rfl (by decide) (Nat.le_of_ble_eq_true rfl) ?_
  refine Go.iloadN d_si4u_4 rfl ?_
  -- at pc 5: pc 5: ifCond .ifCond .ne 22 stack [(.int (Int32.ofNat cs.length))]
  -- not: (Int32.ofNat cs.length) = (0 : Int32)
  refine Go.ifT 27 d_si4u_5 (feq ((fun q => by have := (own_eqn (n := cs.length) (m := 0) (by omega) (by decide)).mp q; omega))).2 (by decide) (by decide) ?_
  refine Go.getS (wd_15 hw) Via.refl (S_cs.ext O.2) d_si4u_27 ?_
  -- at pc 30: pc 30: ifCond .ifCond .eq 28 stack [(.int z)]
  -- not: z = (0 : Int32)
  refine Go.ifF d_si4u_30 (feq (hcs)).1 ?_
  refine Go.aloadN d_si4u_33 rfl rfl ?_
  refine Go.iloadN d_si4u_34 rfl ?_
  refine Go.iloadN d_si4u_35 rfl ?_
  -- at pc 36: pc 36: invokestatic .invokestatic 177 stack [(.int (Int32.ofNat cs.length)), (.int (0 : Int32)), (.ref ca)]
  have lt_x := E_x.lt
  refine Go.callS (I' := IN) (hI := nQ) [(.ref ca), (.int (0 : Int32)), (.int (Int32.ofNat cs.length))] [] (ct_cmp2L l Z a0 hw n0 ca kc cs _ hz hn hP V_ca) (wd_16 hw) (wd_17 hw) (wd_18 hw) (wd_19 hw) (by decide) pd_18 rfl rfl rfl (Nat.le_of_ble_eq_true rfl) (Nat.le_of_ble_eq_true rfl) (Nat.le_of_ble_eq_true rfl) (Nat.le_of_ble_eq_true rfl) d_si4u_36 ?_
  rintro _ hp57 ⟨t, kt, rfl, g_t, s_t, K57, V_t⟩
  replace O := O.keep K57 (all0)
  replace E_x := E_x.keep K57
  replace F_x_value := F_x_value.keep K57 nin0
  replace F_x_coder := F_x_coder.keep K57 nin0
  replace V_ca := V_ca.keep K57 nin0
  replace hz : n0 ≤ hp57.size := Nat.le_trans hz K57.1
  replace KK : Keep h0 hp57 [x] := KK.trans K57 (all0)
  show GM_si4u l Z n0 (fun v h => v = none ∧ Keep h0 h [x] ∧ ∃ (t : Addr) (kt : ClassId), n0 ≤ t ∧ h0.size ≤ t ∧ Byt Z h x t kt (cs.map own_b)) hp57 2 48 39 #[.val (.ref x), .val (.ref ca), .val (.int (0 : Int32)), .val (.int (Int32.ofNat cs.length)), .val .null, .unset] [(.ref t)]
  have ne_x_t : x ≠ t := (Nat.ne_of_lt (Nat.lt_of_lt_of_le lt_x s_t))
  refine Go.astore (Ls' := #[.val (.ref x), .val (.ref ca), .val (.int (0 : Int32)), .val (.int (Int32.ofNat cs.length)), .val .null, .val (.ref t)]) d_si4u_39 rfl rfl ?_
  refine Go.aloadN d_si4u_41 rfl rfl ?_
  refine Go.aload d_si4u_42 rfl rfl ?_
  refine Go.iloadN d_si4u_44 rfl ?_
  -- at pc 45: pc 45: invokestatic .invokestatic 47 stack [(.int (Int32.ofNat cs.length)), (.ref t), (.ref x)]
  refine Go.callS (I' := IN) (hI := nQ) [(.ref t), (.int (Int32.ofNat cs.length))] [(.ref x)] (ct_cfal0 l Z a0 hw n0 t kt cs.length _ _ _ V_t) (wd_24 hw) (wd_25 hw) (wd_18 hw) (wd_26 hw) (by decide) pd_20 rfl rfl rfl (Nat.le_of_ble_eq_true rfl) (Nat.le_of_ble_eq_true rfl) (Nat.le_of_ble_eq_true rfl) (Nat.le_of_ble_eq_true rfl) d_si4u_45 ?_
  rintro _ _ ⟨rfl, rfl⟩
  show GM_si4u l Z n0 (fun v h => v = none ∧ Keep h0 h [x] ∧ ∃ (t : Addr) (kt : ClassId), n0 ≤ t ∧ h0.size ≤ t ∧ Byt Z h x t kt (cs.map own_b)) hp57 2 48 48 #[.val (.ref x), .val (.ref ca), .val (.int (0 : Int32)), .val (.int (Int32.ofNat cs.length)), .val .null, .val (.ref t)] [(.int (0 : Int32)), (.ref x)]
  refine Go.putFN (I' := IN) (hI := nI) (v' := (.int (0 : Int32))) (wd_27 hw) Via.refl F_x_coder E_x (Or.inr ⟨(wd_28 hw), rfl, rfl⟩) (wd_2 hw) (ty := .byte) (by decide) rfl rfl g_x d_si4u_48 fun hp59 W59 => ?_
  have K59 := Keep.of_wr W59
  replace F_x_value := F_x_value.other W59 (Or.inr (slot_ne (Or.inr (wd_30 hw)) (Or.inr (wd_28 hw)) (by decide) (t := (.array .byte)) (t' := .byte) (by decide) (by decide)))
  replace F_x_coder := F_x_coder.same W59
  replace O := O.keep K59 (allS g_x (all0))
  replace E_x := E_x.keep K59
  replace V_ca := V_ca.keep K59 (ninS (Ne.symm nxc) nin0)
  replace V_t := V_t.keep K59 (ninS (Ne.symm ne_x_t) nin0)
  replace hz : n0 ≤ hp59.size := Nat.le_trans hz K59.1
  replace KK : Keep h0 hp59 [x] := KK.trans K59 (allS (Or.inl (by simp)) (all0))
  refine Go.aloadN d_si4u_51 rfl rfl ?_
  refine Go.aload d_si4u_52 rfl rfl ?_
  refine Go.putF (I' := IN) (hI := nI) (wd_29 hw) Via.refl F_x_value E_x (Or.inr ⟨(wd_30 hw), rfl, rfl⟩) (wd_2 hw) (ty := (.array .byte)) (by decide) rfl rfl g_x d_si4u_54 fun hp60 W60 => ?_
  have K60 := Keep.of_wr W60
  replace F_x_value := F_x_value.same W60
  replace F_x_coder := F_x_coder.other W60 (Or.inr (slot_ne (Or.inr (wd_28 hw)) (Or.inr (wd_30 hw)) (by decide) (t := .byte) (t' := (.array .byte)) (by decide) (by decide)))
  replace O := O.keep K60 (allS g_x (all0))
  replace E_x := E_x.keep K60
  replace V_ca := V_ca.keep K60 (ninS (Ne.symm nxc) nin0)
  replace V_t := V_t.keep K60 (ninS (Ne.symm ne_x_t) nin0)
  replace hz : n0 ≤ hp60.size := Nat.le_trans hz K60.1
  replace KK : Keep h0 hp60 [x] := KK.trans K60 (allS (Or.inl (by simp)) (all0))
  -- at pc 57: pc 57: return .return_ stack []
  exact Go.return_ d_si4u_57 rfl (by decide) (by decide) ⟨rfl, KK, t, kt, g_t, s_t, E_x, F_x_coder, F_x_value, by rw [List.length_map]; exact V_t⟩
theorem ct_si1L (l : Launch) (Z : State) (a0 : Array Value) (hw : ∀ d ∈ tables_1, d.before a0 Z = true) (n0 : Nat) (x ca : Addr) (kc : ClassId) (cs : List Int32) (h0 : Heap) (hz : n0 ≤ h0.size) (O : Old Z n0 h0) (z : Int32) (S_cs : Sta Z Z.heap "java/lang/String" "COMPACT_STRINGS" "Z" (.int z)) (hcs : ¬ z = 0) (hl1 : 1 ≤ cs.length) (hn : cs.length ≤ 16) (hP : ∀ x ∈ cs, ¬ (255 : Int32) < x) (g_x : n0 ≤ x) (nxc : x ≠ ca) (E_x : Exa Z h0 x "java/lang/String") (F_x_value : Fld Z h0 x "java/lang/String" "value" "[B" .null) (F_x_coder : Fld Z h0 x "java/lang/String" "coder" "B" (.int (0 : Int32))) (V_ca : Arv Z h0 ca kc .char (Int32.ofNat cs.length) (cs.map Value.int) (.int (0 : Int32))) :
    Ct l Z n0 "java/lang/String" "<init>" "([C)V" [] jdk_42_method_3_code 2 none R_si1u #[.ref x, .ref ca] h0 (fun v h => v = none ∧ Keep h0 h [x] ∧ ∃ (t : Addr) (kt : ClassId), n0 ≤ t ∧ h0.size ≤ t ∧ Byt Z h x t kt (cs.map own_b)) := by
  refine Ct.of_go pf_si1u (Ls := #[.val (.ref x), .val (.ref ca)]) (fun m => by first | rfl | (simp [entryFrame, mkF, argsToLocals, Value.category]; done)) ?_
  show GM_si1u l Z n0 (fun v h => v = none ∧ Keep h0 h [x] ∧ ∃ (t : Addr) (kt : ClassId), n0 ≤ t ∧ h0.size ≤ t ∧ Byt Z h x t kt (cs.map own_b)) h0 0 0 0 #[.val (.ref x), .val (.ref ca)] []
  refine Go.aloadN d_si1u_0 rfl rfl ?_
  refine Go.aloadN d_si1u_1 rfl rfl ?_
  refine Go.iconst 0 d_si1u_2 rfl ?_
  refine Go.aloadN d_si1u_3 rfl rfl ?_
  refine Go.arraylength V_ca d_si1u_4 ?_
  refine Go.null d_si1u_5 ?_
  -- at pc 6: pc 6: invokespecial .invokespecial 27 stack [.null, (.int (Int32.ofNat cs.length)), (.int (0 : Int32)), (.ref ca), (.ref x)]
  refine Go.callI (I' := IN) (hI := nQ) x [(.ref ca), (.int (0 : Int32)), (.int (Int32.ofNat cs.length)), .null] [] (ct_si4L l Z a0 hw n0 x ca kc cs _ hz O z S_cs hcs hl1 hn hP g_x nxc E_x F_x_value F_x_coder V_ca) (wd_8 hw) (wd_9 hw) (wd_3 hw) (wd_11 hw) (by decide) pd_21 rfl rfl rfl (Nat.le_of_ble_eq_true rfl) (Nat.le_of_ble_eq_true rfl) (Nat.le_of_ble_eq_true rfl) (Nat.le_of_ble_eq_true rfl) d_si1u_6 ?_
  rintro _ hp61 ⟨rfl, K1, t, kt, q1, q2, q3⟩
  show GM_si1u l Z n0 (fun v h => v = none ∧ Keep h0 h [x] ∧ ∃ (t : Addr) (kt : ClassId), n0 ≤ t ∧ h0.size ≤ t ∧ Byt Z h x t kt (cs.map own_b)) hp61 2 48 9 #[.val (.ref x), .val (.ref ca)] []
  -- at pc 9: pc 9: return .return_ stack []
  exact Go.return_ d_si1u_9 rfl (by decide) (by decide) ⟨rfl, K1, t, kt, q1, q2, q3⟩
/-- new String(char[]) of one to sixteen chars -/
theorem ct_newC (l : Launch) (Z : State) (a0 : Array Value) (hw : ∀ d ∈ tables_1, d.before a0 Z = true) (n0 : Nat) (x ca : Addr) (kc : ClassId) (cs : List Int32) (h0 : Heap) (hz : n0 ≤ h0.size) (O : Old Z n0 h0) (z : Int32) (S_cs : Sta Z Z.heap "java/lang/String" "COMPACT_STRINGS" "Z" (.int z)) (hcs : ¬ z = 0) (S_ad : Sta Z Z.heap "java/lang/StringUTF16" "$assertionsDisabled" "Z" (.int (1 : Int32))) (S_hi : Sta Z Z.heap "java/lang/StringUTF16" "HI_BYTE_SHIFT" "I" (.int (0 : Int32))) (S_lo : Sta Z Z.heap "java/lang/StringUTF16" "LO_BYTE_SHIFT" "I" (.int (8 : Int32))) (hl1 : 1 ≤ cs.length) (hn : cs.length ≤ 16) (hC : Chr cs) (g_x : n0 ≤ x) (nxc : x ≠ ca) (E_x : Exa Z h0 x "java/lang/String") (F_x_value : Fld Z h0 x "java/lang/String" "value" "[B" .null) (F_x_coder : Fld Z h0 x "java/lang/String" "coder" "B" (.int (0 : Int32))) (V_ca : Arv Z h0 ca kc .char (Int32.ofNat cs.length) (cs.map Value.int) (.int (0 : Int32))) :
    Ct l Z n0 "java/lang/String" "<init>" "([C)V" [] jdk_42_method_3_code 2 none R_si1u #[.ref x, .ref ca] h0 (fun v h => v = none ∧ Keep h0 h [x] ∧ ∃ (t : Addr) (kt : ClassId), n0 ≤ t ∧ h0.size ≤ t ∧ Cst Z h x t kt cs) := by
  by_cases hL : Lat cs
  · exact (ct_si1L l Z a0 hw n0 x ca kc cs h0 hz O z S_cs hcs hl1 hn (fun c hc => own_le255 (hL c hc)) g_x nxc E_x F_x_value F_x_coder V_ca).mono fun v h ⟨q1, q2, t, kt, q3, q4, q5⟩ => ⟨q1, q2, t, kt, q3, q4, Or.inl ⟨hL, q5⟩⟩
  · obtain ⟨P, c, R, e, hP, hc⟩ := own_first cs hL
    have hm := hC c (by rw [e]; simp)
    exact (ct_si1u l Z a0 hw n0 x ca kc cs P R c h0 hz O z S_cs hcs S_ad S_hi S_lo e hn hP hc hm.1 hm.2 g_x nxc E_x F_x_value F_x_coder V_ca).mono fun v h ⟨q1, q2, t, kt, q3, q4, q5⟩ => ⟨q1, q2, t, kt, q3, q4, Or.inr ⟨hL, q5⟩⟩
theorem d_leq_0 : decode jdk_43_method_13_code 0 = .ok (.aload_n 0, 1) := by decide +kernel
theorem d_leq_1 : decode jdk_43_method_13_code 1 = .ok (.arraylength, 1) := by decide +kernel
theorem d_leq_2 : decode jdk_43_method_13_code 2 = .ok (.aload_n 1, 1) := by decide +kernel
theorem d_leq_3 : decode jdk_43_method_13_code 3 = .ok (.arraylength, 1) := by decide +kernel
theorem d_leq_4 : decode jdk_43_method_13_code 4 = .ok (.if_icmp .ne 30, 3) := by decide +kernel
theorem d_leq_7 : decode jdk_43_method_13_code 7 = .ok (.iconst 0, 1) := by decide +kernel
theorem d_leq_8 : decode jdk_43_method_13_code 8 = .ok (.istore_n 2, 1) := by decide +kernel
theorem d_leq_9 : decode jdk_43_method_13_code 9 = .ok (.iload_n 2, 1) := by decide +kernel
theorem d_leq_10 : decode jdk_43_method_13_code 10 = .ok (.aload_n 0, 1) := by decide +kernel
theorem d_leq_11 : decode jdk_43_method_13_code 11 = .ok (.arraylength, 1) := by decide +kernel
theorem d_leq_12 : decode jdk_43_method_13_code 12 = .ok (.if_icmp .ge 20, 3) := by decide +kernel
theorem d_leq_15 : decode jdk_43_method_13_code 15 = .ok (.aload_n 0, 1) := by decide +kernel
theorem d_leq_16 : decode jdk_43_method_13_code 16 = .ok (.iload_n 2, 1) := by decide +kernel
theorem d_leq_17 : decode jdk_43_method_13_code 17 = .ok (.baload, 1) := by decide +kernel
theorem d_leq_18 : decode jdk_43_method_13_code 18 = .ok (.aload_n 1, 1) := by decide +kernel
theorem d_leq_19 : decode jdk_43_method_13_code 19 = .ok (.iload_n 2, 1) := by decide +kernel
theorem d_leq_20 : decode jdk_43_method_13_code 20 = .ok (.baload, 1) := by decide +kernel
theorem d_leq_21 : decode jdk_43_method_13_code 21 = .ok (.if_icmp .eq 5, 3) := by decide +kernel
theorem d_leq_26 : decode jdk_43_method_13_code 26 = .ok (.iinc 2 1, 3) := by decide +kernel
theorem d_leq_29 : decode jdk_43_method_13_code 29 = .ok (.goto (-20), 3) := by decide +kernel
theorem d_leq_32 : decode jdk_43_method_13_code 32 = .ok (.iconst 1, 1) := by decide +kernel
theorem d_leq_33 : decode jdk_43_method_13_code 33 = .ok (.ireturn, 1) := by decide +kernel
abbrev R_leq : Room := ({ frames := 0, cells := 0, slots := 0, locals := 0 } : Room)
abbrev GM_leq (l : Launch) (Z : State) (n0 : Nat) (Q : Option Value → Heap → Prop) (h : Heap) (cells slots pc : Nat) (Ls : Array Slot) (st : List Value) : Prop := Go l Z n0 R_leq "java/lang/StringLatin1" "equals" jdk_43_method_13_code 3 (some .boolean) IN (FN n0 R_leq Q) h cells slots pc Ls st
abbrev GW_leq (l : Launch) (Z : State) (EL : List (String × Nat)) (s₀ : State) (n0 : Nat) (Q : Option Value → Heap → Prop) (lo : Nat) (Sf : List Addr) (h : Heap) (cells slots pc : Nat) (Ls : Array Slot) (st : List Value) : Prop := Go l Z n0 R_leq "java/lang/StringLatin1" "equals" jdk_43_method_13_code 3 (some .boolean) (IW Z EL s₀ lo Sf) (FW Z EL s₀ n0 R_leq Q) h cells slots pc Ls st
theorem pf_leq : plainFor (⟨"java/lang/StringLatin1", "equals", "([B[B)Z"⟩ : MethodName) = true := plainFor_of_name (by first | (simp [plainName, overriddenIn]; done) | decide +kernel)
set_option maxHeartbeats 1000000 in
theorem ct_leq (l : Launch) (Z : State) (a0 : Array Value) (hw : ∀ d ∈ tables_1, d.before a0 Z = true) (n0 : Nat) (t u : Addr) (kt ku : ClassId) (bs : List Int32) (h0 : Heap) (V_t : Arv Z h0 t kt .byte (Int32.ofNat bs.length) (bs.map Value.int) (.int (0 : Int32))) (V_u : Arv Z h0 u ku .byte (Int32.ofNat bs.length) (bs.map Value.int) (.int (0 : Int32))) (hb : bs.length < 2 ^ 31) :
    Ct l Z n0 "java/lang/StringLatin1" "equals" "([B[B)Z" [] jdk_43_method_13_code 3 (some .boolean) R_leq #[.ref t, .ref u] h0 (fun v h => v = some (.int (1 : Int32)) ∧ h0 = h) := by
  refine Ct.of_go pf_leq (Ls := #[.val (.ref t), .val (.ref u), .unset]) (fun m => by first | rfl | (simp [entryFrame, mkF, argsToLocals, Value.category]; done)) ?_
  show GM_leq l Z n0 (fun v h => v = some (.int (1 : Int32)) ∧ h0 = h) h0 0 0 0 #[.val (.ref t), .val (.ref u), .unset] []
  refine Go.aloadN d_leq_0 rfl rfl ?_
  refine Go.arraylength V_t d_leq_1 ?_
  refine Go.aloadN d_leq_2 rfl rfl ?_
  refine Go.arraylength V_u d_leq_3 ?_
  -- at pc 4: pc 4: if_icmp .if_icmp .ne 30 stack [(.int (Int32.ofNat bs.length)), (.int (Int32.ofNat bs.length))]
  -- (Int32.ofNat bs.length) = (Int32.ofNat bs.length)
  refine Go.icF d_leq_4 (teq (rfl)).2 ?_
  refine Go.iconst 0 d_leq_7 rfl ?_
  refine Go.istoreN (Ls' := #[.val (.ref t), .val (.ref u), .val (.int (0 : Int32))]) d_leq_8 rfl ?_
  have loop : ∀ (br : List Int32) (i : Nat), bs.drop i = br → i ≤ bs.length → GM_leq l Z n0 (fun v h => v = some (.int (1 : Int32)) ∧ h0 = h) h0 0 0 9 #[.val (.ref t), .val (.ref u), .val (.int (Int32.ofNat i))] [] := by
    intro br
    induction br with
    | nil =>
      intro i hb1 hi
      have hle : bs.length ≤ i := List.drop_eq_nil_iff.mp hb1
      have hie : i = bs.length := Nat.le_antisymm hi hle
      refine Go.iloadN d_leq_9 rfl ?_
      refine Go.aloadN d_leq_10 rfl rfl ?_
      refine Go.arraylength V_t d_leq_11 ?_
      -- at pc 12: pc 12: if_icmp .if_icmp .ge 20 stack [(.int (Int32.ofNat bs.length)), (.int (Int32.ofNat i))]
      -- not: (Int32.ofNat i) < (Int32.ofNat bs.length)
      refine Go.icT 32 d_leq_12 (flt ((by rw [hie]; exact own_irr _))).2.1 (by decide) (by decide) ?_
      refine Go.iconst 1 d_leq_32 rfl ?_
      -- at pc 33: pc 33: ireturn .ireturn stack [(.int (1 : Int32))]
      exact Go.nreturn .boolean d_leq_33 rfl (by simp) (by decide) (by decide) ⟨rfl, rfl⟩
    | cons b br ih =>
      intro i hb1 hi
      have hbi : bs[i]? = some b := by
        have := congrArg (fun L => L[0]?) hb1
        simpa using this
      have hib : i < bs.length := (List.getElem?_eq_some_iff.mp hbi).1
      have hb2 : bs.drop (i + 1) = br := by rw [← List.drop_drop, hb1]; rfl
      refine Go.iloadN d_leq_9 rfl ?_
      refine Go.aloadN d_leq_10 rfl rfl ?_
      refine Go.arraylength V_t d_leq_11 ?_
      -- at pc 12: pc 12: if_icmp .if_icmp .ge 20 stack [(.int (Int32.ofNat bs.length)), (.int (Int32.ofNat i))]
      -- (Int32.ofNat i) < (Int32.ofNat bs.length)
      refine Go.icF d_leq_12 (tlt ((own_idx hib hb).2)).2.1 ?_
      refine Go.aloadN d_leq_15 rfl rfl ?_
      refine Go.iloadN d_leq_16 rfl ?_
      -- at pc 17: pc 17: baload of t at (Int32.ofNat i): '!aload value ; bounds ; getD'
      refine Go.baload (.int b) V_t (own_idx hib hb) (by rw [own_clamp (by omega), List.getD_eq_getElem?_getD, List.getElem?_map, hbi]; rfl) d_leq_17 ?_
      refine Go.aloadN d_leq_18 rfl rfl ?_
      refine Go.iloadN d_leq_19 rfl ?_
      -- at pc 20: pc 20: baload of u at (Int32.ofNat i): '!aload value ; bounds ; getD'
      refine Go.baload (.int b) V_u (own_idx hib hb) (by rw [own_clamp (by omega), List.getD_eq_getElem?_getD, List.getElem?_map, hbi]; rfl) d_leq_20 ?_
      -- b = b
      refine Go.icT 26 d_leq_21 (teq (rfl)).1 (by decide) (by decide) ?_
      refine Go.iinc (Ls' := #[.val (.ref t), .val (.ref u), .val (.int ((Int32.ofNat i) + (1 : Int32)))]) (1 : Int32) rfl d_leq_26 rfl rfl ?_
      rw [show ((Int32.ofNat i) + (1 : Int32)) = (Int32.ofNat (i + 1)) from (own_of1 _)]
      refine Go.goto 9 d_leq_29 (by decide) (by decide) ?_
      exact ih (i + 1) hb2 hib
  exact loop bs 0 rfl (Nat.zero_le _)
theorem d_eqs_0 : decode jdk_42_method_66_code 0 = .ok (.aload_n 0, 1) := by decide +kernel
theorem d_eqs_1 : decode jdk_42_method_66_code 1 = .ok (.aload_n 1, 1) := by decide +kernel
theorem d_eqs_2 : decode jdk_42_method_66_code 2 = .ok (.if_acmp .ne 5, 3) := by decide +kernel
theorem d_eqs_5 : decode jdk_42_method_66_code 5 = .ok (.iconst 1, 1) := by decide +kernel
theorem d_eqs_6 : decode jdk_42_method_66_code 6 = .ok (.ireturn, 1) := by decide +kernel
theorem d_eqs_7 : decode jdk_42_method_66_code 7 = .ok (.aload_n 1, 1) := by decide +kernel
theorem d_eqs_8 : decode jdk_42_method_66_code 8 = .ok (.instanceof 10, 3) := by decide +kernel
theorem d_eqs_11 : decode jdk_42_method_66_code 11 = .ok (.ifCond .eq 43, 3) := by decide +kernel
theorem d_eqs_14 : decode jdk_42_method_66_code 14 = .ok (.aload_n 1, 1) := by decide +kernel
theorem d_eqs_15 : decode jdk_42_method_66_code 15 = .ok (.checkcast 10, 3) := by decide +kernel
theorem d_eqs_18 : decode jdk_42_method_66_code 18 = .ok (.astore_n 2, 1) := by decide +kernel
theorem d_eqs_19 : decode jdk_42_method_66_code 19 = .ok (.getstatic 38, 3) := by decide +kernel
theorem d_eqs_22 : decode jdk_42_method_66_code 22 = .ok (.ifCond .eq 14, 3) := by decide +kernel
theorem d_eqs_25 : decode jdk_42_method_66_code 25 = .ok (.aload_n 0, 1) := by decide +kernel
theorem d_eqs_26 : decode jdk_42_method_66_code 26 = .ok (.getfield 15, 3) := by decide +kernel
theorem d_eqs_29 : decode jdk_42_method_66_code 29 = .ok (.aload_n 2, 1) := by decide +kernel
theorem d_eqs_30 : decode jdk_42_method_66_code 30 = .ok (.getfield 15, 3) := by decide +kernel
theorem d_eqs_33 : decode jdk_42_method_66_code 33 = .ok (.if_icmp .ne 21, 3) := by decide +kernel
theorem d_eqs_36 : decode jdk_42_method_66_code 36 = .ok (.aload_n 0, 1) := by decide +kernel
theorem d_eqs_37 : decode jdk_42_method_66_code 37 = .ok (.getfield 9, 3) := by decide +kernel
theorem d_eqs_40 : decode jdk_42_method_66_code 40 = .ok (.aload_n 2, 1) := by decide +kernel
theorem d_eqs_41 : decode jdk_42_method_66_code 41 = .ok (.getfield 9, 3) := by decide +kernel
theorem d_eqs_44 : decode jdk_42_method_66_code 44 = .ok (.invokestatic 541, 3) := by decide +kernel
theorem d_eqs_47 : decode jdk_42_method_66_code 47 = .ok (.ifCond .eq 7, 3) := by decide +kernel
theorem d_eqs_50 : decode jdk_42_method_66_code 50 = .ok (.iconst 1, 1) := by decide +kernel
theorem d_eqs_51 : decode jdk_42_method_66_code 51 = .ok (.goto 4, 3) := by decide +kernel
theorem d_eqs_55 : decode jdk_42_method_66_code 55 = .ok (.ireturn, 1) := by decide +kernel
abbrev R_eqs : Room := ({ frames := 1, cells := 0, slots := 0, locals := 15 } : Room)
abbrev GM_eqs (l : Launch) (Z : State) (n0 : Nat) (Q : Option Value → Heap → Prop) (h : Heap) (cells slots pc : Nat) (Ls : Array Slot) (st : List Value) : Prop := Go l Z n0 R_eqs "java/lang/String" "equals" jdk_42_method_66_code 3 (some .boolean) IN (FN n0 R_eqs Q) h cells slots pc Ls st
abbrev GW_eqs (l : Launch) (Z : State) (EL : List (String × Nat)) (s₀ : State) (n0 : Nat) (Q : Option Value → Heap → Prop) (lo : Nat) (Sf : List Addr) (h : Heap) (cells slots pc : Nat) (Ls : Array Slot) (st : List Value) : Prop := Go l Z n0 R_eqs "java/lang/String" "equals" jdk_42_method_66_code 3 (some .boolean) (IW Z EL s₀ lo Sf) (FW Z EL s₀ n0 R_eqs Q) h cells slots pc Ls st
theorem pf_eqs : plainFor (⟨"java/lang/String", "equals", "(Ljava/lang/Object;)Z"⟩ : MethodName) = true := plainFor_of_name (by first | (simp [plainName, overriddenIn]; done) | decide +kernel)
theorem ct_eqs (l : Launch) (Z : State) (a0 : Array Value) (hw : ∀ d ∈ tables_1, d.before a0 Z = true) (n0 : Nat) (x y t u : Addr) (kt ku : ClassId) (cd : Int32) (bs : List Int32) (h0 : Heap) (O : Old Z n0 h0) (z : Int32) (S_cs : Sta Z Z.heap "java/lang/String" "COMPACT_STRINGS" "Z" (.int z)) (hcs : ¬ z = 0) (nxy : x ≠ y) (E_x : Exa Z h0 x "java/lang/String") (F_x_coder : Fld Z h0 x "java/lang/String" "coder" "B" (.int cd)) (F_x_value : Fld Z h0 x "java/lang/String" "value" "[B" (.ref t)) (V_t : Arv Z h0 t kt .byte (Int32.ofNat bs.length) (bs.map Value.int) (.int (0 : Int32))) (E_y : Exa Z h0 y "java/lang/String") (F_y_coder : Fld Z h0 y "java/lang/String" "coder" "B" (.int cd)) (F_y_value : Fld Z h0 y "java/lang/String" "value" "[B" (.ref u)) (V_u : Arv Z h0 u ku .byte (Int32.ofNat bs.length) (bs.map Value.int) (.int (0 : Int32))) (hb : bs.length < 2 ^ 31) :
    Ct l Z n0 "java/lang/String" "equals" "(Ljava/lang/Object;)Z" [] jdk_42_method_66_code 3 (some .boolean) R_eqs #[.ref x, .ref y] h0 (fun v h => v = some (.int (1 : Int32)) ∧ h0 = h) := by
  refine Ct.of_go pf_eqs (Ls := #[.val (.ref x), .val (.ref y), .unset]) (fun m => by first | rfl | (simp [entryFrame, mkF, argsToLocals, Value.category]; done)) ?_
  show GM_eqs l Z n0 (fun v h => v = some (.int (1 : Int32)) ∧ h0 = h) h0 0 0 0 #[.val (.ref x), .val (.ref y), .unset] []
  refine Go.aloadN d_eqs_0 rfl rfl ?_
  refine Go.aloadN d_eqs_1 rfl rfl ?_
  refine Go.acmp 7 false d_eqs_2 rfl rfl (decide_eq_false fun q => nxy (Value.ref.inj q)) (by decide) (by decide) ?_
  refine Go.aloadN d_eqs_7 rfl rfl ?_
  refine Go.instY (wd_216 hw) (Ins.self E_y) d_eqs_8 ?_
  -- at pc 11: pc 11: ifCond .ifCond .eq 43 stack [(.int (1 : Int32))]
  -- not: (1 : Int32) = (0 : Int32)
  refine Go.ifF d_eqs_11 (feq (by decide)).1 ?_
  refine Go.aloadN d_eqs_14 rfl rfl ?_
  refine Go.castY (wd_216 hw) (Ins.self E_y) d_eqs_15 ?_
  refine Go.astoreN (Ls' := #[.val (.ref x), .val (.ref y), .val (.ref y)]) d_eqs_18 rfl rfl ?_
  refine Go.getS (wd_15 hw) Via.refl (S_cs.ext O.2) d_eqs_19 ?_
  -- at pc 22: pc 22: ifCond .ifCond .eq 14 stack [(.int z)]
  -- not: z = (0 : Int32)
  refine Go.ifF d_eqs_22 (feq (hcs)).1 ?_
  refine Go.aloadN d_eqs_25 rfl rfl ?_
  refine Go.getF (wd_27 hw) Via.refl F_x_coder d_eqs_26 ?_
  refine Go.aloadN d_eqs_29 rfl rfl ?_
  refine Go.getF (wd_27 hw) Via.refl F_y_coder d_eqs_30 ?_
  -- at pc 33: pc 33: if_icmp .if_icmp .ne 21 stack [(.int cd), (.int cd)]
  -- cd = cd
  refine Go.icF d_eqs_33 (teq (rfl)).2 ?_
  refine Go.aloadN d_eqs_36 rfl rfl ?_
  refine Go.getF (wd_29 hw) Via.refl F_x_value d_eqs_37 ?_
  refine Go.aloadN d_eqs_40 rfl rfl ?_
  refine Go.getF (wd_29 hw) Via.refl F_y_value d_eqs_41 ?_
  -- at pc 44: pc 44: invokestatic .invokestatic 541 stack [(.ref u), (.ref t)]
  refine Go.callS (I' := IN) (hI := nQ) [(.ref t), (.ref u)] [] (ct_leq l Z a0 hw n0 t u kt ku bs _ V_t V_u hb) (wd_217 hw) (wd_218 hw) (wd_219 hw) (wd_220 hw) (by decide) pd_27 rfl rfl rfl (Nat.le_of_ble_eq_true rfl) (Nat.le_of_ble_eq_true rfl) (Nat.le_of_ble_eq_true rfl) (Nat.le_of_ble_eq_true rfl) d_eqs_44 ?_
  rintro _ _ ⟨rfl, rfl⟩
  show GM_eqs l Z n0 (fun v h => v = some (.int (1 : Int32)) ∧ h0 = h) h0 0 0 47 #[.val (.ref x), .val (.ref y), .val (.ref y)] [(.int (1 : Int32))]
  -- not: (1 : Int32) = (0 : Int32)
  refine Go.ifF d_eqs_47 (feq (by decide)).1 ?_
  refine Go.iconst 1 d_eqs_50 rfl ?_
  refine Go.goto 55 d_eqs_51 (by decide) (by decide) ?_
  -- at pc 55: pc 55: ireturn .ireturn stack [(.int (1 : Int32))]
  exact Go.nreturn .boolean d_eqs_55 rfl (by simp) (by decide) (by decide) ⟨rfl, rfl⟩
theorem ct_eqI (l : Launch) (Z : State) (a0 : Array Value) (hw : ∀ d ∈ tables_1, d.before a0 Z = true) (n0 : Nat) (x : Addr) (h0 : Heap) : Ct l Z n0 "java/lang/String" "equals" "(Ljava/lang/Object;)Z" [] jdk_42_method_66_code 3 (some .boolean) R_eqs #[.ref x, .ref x] h0 (fun v h => v = some (.int (1 : Int32)) ∧ h0 = h) := by
  refine Ct.of_go pf_eqs (Ls := #[.val (.ref x), .val (.ref x), .unset]) (fun m => by first | rfl | (simp [entryFrame, mkF, argsToLocals, Value.category]; done)) ?_
  show GM_eqs l Z n0 (fun v h => v = some (.int (1 : Int32)) ∧ h0 = h) h0 0 0 0 #[.val (.ref x), .val (.ref x), .unset] []
  refine Go.aloadN d_eqs_0 rfl rfl ?_
  refine Go.aloadN d_eqs_1 rfl rfl ?_
  refine Go.acmp 5 true d_eqs_2 rfl rfl (decide_eq_true rfl) (by decide) (by decide) ?_
  refine Go.iconst 1 d_eqs_5 rfl ?_
  -- at pc 6: pc 6: ireturn .ireturn stack [(.int (1 : Int32))]
  exact Go.nreturn .boolean d_eqs_6 rfl (by simp) (by decide) (by decide) ⟨rfl, rfl⟩
theorem ct_eqC (l : Launch) (Z : State) (a0 : Array Value) (hw : ∀ d ∈ tables_1, d.before a0 Z = true) (n0 : Nat) (x y t u : Addr) (kt ku : ClassId) (cs : List Int32) (h0 : Heap) (O : Old Z n0 h0) (z : Int32) (S_cs : Sta Z Z.heap "java/lang/String" "COMPACT_STRINGS" "Z" (.int z)) (hcs : ¬ z = 0) (nxy : x ≠ y) (hl : cs.length < 2 ^ 29) (B : Cst Z h0 x t kt cs) (C : Cst Z h0 y u ku cs) :
    Ct l Z n0 "java/lang/String" "equals" "(Ljava/lang/Object;)Z" [] jdk_42_method_66_code 3 (some .boolean) R_eqs #[.ref x, .ref y] h0 (fun v h => v = some (.int (1 : Int32)) ∧ h0 = h) := by
  rcases B with ⟨hL, B⟩ | ⟨hL, B⟩
  · rcases C with ⟨hM, C⟩ | ⟨hM, C⟩
    · exact ct_eqs l Z a0 hw n0 x y t u kt ku 0 (cs.map own_b) h0 O z S_cs hcs nxy B.1 B.2.1 B.2.2.1 B.2.2.2 C.1 C.2.1 C.2.2.1 C.2.2.2 (by rw [List.length_map]; omega)
    · exact absurd hL hM
  · rcases C with ⟨hM, C⟩ | ⟨hM, C⟩
    · exact absurd hM hL
    · exact ct_eqs l Z a0 hw n0 x y t u kt ku 1 (enc2 cs) h0 O z S_cs hcs nxy B.1 B.2.1 B.2.2.1 (by rw [enc2_len]; exact B.2.2.2) C.1 C.2.1 C.2.2.1 (by rw [enc2_len]; exact C.2.2.2) (by rw [enc2_len]; omega)
-- PART utf4
theorem ct_slenC (l : Launch) (Z : State) (a0 : Array Value) (hw : ∀ d ∈ tables_1, d.before a0 Z = true) (n0 : Nat) (x t : Addr) (kt : ClassId) (cs : List Int32) (h0 : Heap) (O : Old Z n0 h0) (z : Int32) (S_cs : Sta Z Z.heap "java/lang/String" "COMPACT_STRINGS" "Z" (.int z)) (hcs : ¬ z = 0) (hl : cs.length < 2 ^ 29) (B : Cst Z h0 x t kt cs) : Ct l Z n0 "java/lang/String" "length" "()I" [] jdk_42_method_54_code 1 (some .int) R_slen #[.ref x] h0 (fun v h => v = some (.int (Int32.ofNat cs.length)) ∧ h0 = h) := by
  rcases B with ⟨_, B⟩ | ⟨_, B⟩
  · have q := ct_slen l Z a0 hw n0 x t kt (cs.map own_b) h0 O z S_cs hcs B
    rw [List.length_map] at q
    exact q
  · exact ct_slen1 l Z a0 hw n0 x t kt cs h0 O z S_cs hcs hl B
theorem ct_inflUL (l : Launch) (Z : State) (a0 : Array Value) (hw : ∀ d ∈ tables_1, d.before a0 Z = true) (n0 : Nat) (sb x : Addr) (h0 : Heap) (O : Old Z n0 h0) (z : Int32) (S_cs : Sta Z Z.heap "java/lang/String" "COMPACT_STRINGS" "Z" (.int z)) (hcs : ¬ z = 0) (E_sb : Exa Z h0 sb "java/lang/StringBuilder") (F_sb_coder : Fld Z h0 sb "java/lang/AbstractStringBuilder" "coder" "B" (.int (1 : Int32))) (E_x : Exa Z h0 x "java/lang/String") (F_x_coder : Fld Z h0 x "java/lang/String" "coder" "B" (.int (0 : Int32))) : Ct l Z n0 "java/lang/AbstractStringBuilder" "inflateIfNeededFor" "(Ljava/lang/String;)V" [] jdk_68_method_71_code 2 none R_infl #[.ref sb, .ref x] h0 (fun v h => v = none ∧ h0 = h) := by
  refine Ct.of_go pf_infl (Ls := #[.val (.ref sb), .val (.ref x)]) (fun m => by first | rfl | (simp [entryFrame, mkF, argsToLocals, Value.category]; done)) ?_
  show GM_infl l Z n0 (fun v h => v = none ∧ h0 = h) h0 0 0 0 #[.val (.ref sb), .val (.ref x)] []
  refine Go.getS (wd_97 hw) Via.refl (S_cs.ext O.2) d_infl_0 ?_
  -- at pc 3: pc 3: ifCond .ifCond .eq 18 stack [(.int z)]
  -- not: z = (0 : Int32)
  refine Go.ifF d_infl_3 (feq (hcs)).1 ?_
  refine Go.aloadN d_infl_6 rfl rfl ?_
  refine Go.getF (wd_100 hw) Via.refl F_sb_coder d_infl_7 ?_
  refine Go.aloadN d_infl_10 rfl rfl ?_
  -- at pc 11: pc 11: invokevirtual .invokevirtual 40 stack [(.ref x), (.int (1 : Int32))]
  refine Go.callV (I' := IN) (hI := nQ) x [] [(.int (1 : Int32))] (ct_scoder l Z a0 hw n0 x _ O z S_cs hcs F_x_coder) E_x (wd_139 hw) (wd_118 hw) (nf_sel (wd_120 hw)) (wd_120 hw) (wd_119 hw) (wd_3 hw) (wd_121 hw) (by decide) pd_0 rfl rfl rfl (Nat.le_of_ble_eq_true rfl) (Nat.le_of_ble_eq_true rfl) (Nat.le_of_ble_eq_true rfl) (Nat.le_of_ble_eq_true rfl) d_infl_11 ?_
  rintro _ _ ⟨rfl, rfl⟩
  show GM_infl l Z n0 (fun v h => v = none ∧ h0 = h) h0 0 0 14 #[.val (.ref sb), .val (.ref x)] [(.int (0 : Int32)), (.int (1 : Int32))]
  -- not: (1 : Int32) = (0 : Int32)
  refine Go.icF d_infl_14 (feq (by decide)).1 ?_
  refine Go.aloadN d_infl_17 rfl rfl ?_
  -- at pc 18: pc 18: invokevirtual .invokevirtual 195 stack [(.ref sb)]
  refine Go.callP (I' := IN) (hI := nQ) sb [] [] (ct_binf1 l Z a0 hw n0 sb _ O z S_cs hcs E_sb F_sb_coder) E_sb (wd_243 hw) (wd_244 hw) (sel_priv2 (y := (⟨"java/lang/AbstractStringBuilder", "inflate", "()V"⟩ : MethodName)) (show Ord Z "java/lang/AbstractStringBuilder" from Ord.sel (wd_127 hw)) (wd_244 hw) (wd_245 hw) (by decide)) (wd_245 hw) (wd_94 hw) (wd_247 hw) (by decide) pd_28 rfl rfl rfl (Nat.le_of_ble_eq_true rfl) (Nat.le_of_ble_eq_true rfl) (Nat.le_of_ble_eq_true rfl) (Nat.le_of_ble_eq_true rfl) d_infl_18 ?_
  rintro _ _ ⟨rfl, rfl⟩
  show GM_infl l Z n0 (fun v h => v = none ∧ h0 = h) h0 1 32 21 #[.val (.ref sb), .val (.ref x)] []
  -- at pc 21: pc 21: return .return_ stack []
  exact Go.return_ d_infl_21 rfl (by decide) (by decide) ⟨rfl, rfl⟩
theorem ct_inflUU (l : Launch) (Z : State) (a0 : Array Value) (hw : ∀ d ∈ tables_1, d.before a0 Z = true) (n0 : Nat) (sb x : Addr) (h0 : Heap) (O : Old Z n0 h0) (z : Int32) (S_cs : Sta Z Z.heap "java/lang/String" "COMPACT_STRINGS" "Z" (.int z)) (hcs : ¬ z = 0) (F_sb_coder : Fld Z h0 sb "java/lang/AbstractStringBuilder" "coder" "B" (.int (1 : Int32))) (E_x : Exa Z h0 x "java/lang/String") (F_x_coder : Fld Z h0 x "java/lang/String" "coder" "B" (.int (1 : Int32))) : Ct l Z n0 "java/lang/AbstractStringBuilder" "inflateIfNeededFor" "(Ljava/lang/String;)V" [] jdk_68_method_71_code 2 none R_infl #[.ref sb, .ref x] h0 (fun v h => v = none ∧ h0 = h) := by
  refine Ct.of_go pf_infl (Ls := #[.val (.ref sb), .val (.ref x)]) (fun m => by first | rfl | (simp [entryFrame, mkF, argsToLocals, Value.category]; done)) ?_
  show GM_infl l Z n0 (fun v h => v = none ∧ h0 = h) h0 0 0 0 #[.val (.ref sb), .val (.ref x)] []
  refine Go.getS (wd_97 hw) Via.refl (S_cs.ext O.2) d_infl_0 ?_
  -- at pc 3: pc 3: ifCond .ifCond .eq 18 stack [(.int z)]
  -- not: z = (0 : Int32)
  refine Go.ifF d_infl_3 (feq (hcs)).1 ?_
  refine Go.aloadN d_infl_6 rfl rfl ?_
  refine Go.getF (wd_100 hw) Via.refl F_sb_coder d_infl_7 ?_
  refine Go.aloadN d_infl_10 rfl rfl ?_
  -- at pc 11: pc 11: invokevirtual .invokevirtual 40 stack [(.ref x), (.int (1 : Int32))]
  refine Go.callV (I' := IN) (hI := nQ) x [] [(.int (1 : Int32))] (ct_scoder1 l Z a0 hw n0 x _ O z S_cs hcs F_x_coder) E_x (wd_139 hw) (wd_118 hw) (nf_sel (wd_120 hw)) (wd_120 hw) (wd_119 hw) (wd_3 hw) (wd_121 hw) (by decide) pd_0 rfl rfl rfl (Nat.le_of_ble_eq_true rfl) (Nat.le_of_ble_eq_true rfl) (Nat.le_of_ble_eq_true rfl) (Nat.le_of_ble_eq_true rfl) d_infl_11 ?_
  rintro _ _ ⟨rfl, rfl⟩
  show GM_infl l Z n0 (fun v h => v = none ∧ h0 = h) h0 0 0 14 #[.val (.ref sb), .val (.ref x)] [(.int (1 : Int32)), (.int (1 : Int32))]
  -- (1 : Int32) = (1 : Int32)
  refine Go.icT 21 d_infl_14 (teq (rfl)).1 (by decide) (by decide) ?_
  -- at pc 21: pc 21: return .return_ stack []
  exact Go.return_ d_infl_21 rfl (by decide) (by decide) ⟨rfl, rfl⟩
theorem ct_inflU (l : Launch) (Z : State) (a0 : Array Value) (hw : ∀ d ∈ tables_1, d.before a0 Z = true) (n0 : Nat) (sb x t : Addr) (kt : ClassId) (ds : List Int32) (h0 : Heap) (O : Old Z n0 h0) (z : Int32) (S_cs : Sta Z Z.heap "java/lang/String" "COMPACT_STRINGS" "Z" (.int z)) (hcs : ¬ z = 0) (E_sb : Exa Z h0 sb "java/lang/StringBuilder") (F_sb_coder : Fld Z h0 sb "java/lang/AbstractStringBuilder" "coder" "B" (.int (1 : Int32))) (B : Cst Z h0 x t kt ds) : Ct l Z n0 "java/lang/AbstractStringBuilder" "inflateIfNeededFor" "(Ljava/lang/String;)V" [] jdk_68_method_71_code 2 none R_infl #[.ref sb, .ref x] h0 (fun v h => v = none ∧ h0 = h) := by
  rcases B with ⟨_, B⟩ | ⟨_, B⟩
  · exact ct_inflUL l Z a0 hw n0 sb x h0 O z S_cs hcs E_sb F_sb_coder B.1 B.2.1
  · exact ct_inflUU l Z a0 hw n0 sb x h0 O z S_cs hcs F_sb_coder B.1 B.2.1
theorem ct_inflLU (l : Launch) (Z : State) (a0 : Array Value) (hw : ∀ d ∈ tables_1, d.before a0 Z = true) (n0 : Nat) (sb va x t : Addr) (kv kt : ClassId) (cs ds : List Int32) (h0 : Heap) (hz : n0 ≤ h0.size) (O : Old Z n0 h0) (z : Int32) (S_cs : Sta Z Z.heap "java/lang/String" "COMPACT_STRINGS" "Z" (.int z)) (hcs : ¬ z = 0) (S_ad : Sta Z Z.heap "java/lang/StringUTF16" "$assertionsDisabled" "Z" (.int (1 : Int32))) (S_hi : Sta Z Z.heap "java/lang/StringUTF16" "HI_BYTE_SHIFT" "I" (.int (0 : Int32))) (S_lo : Sta Z Z.heap "java/lang/StringUTF16" "LO_BYTE_SHIFT" "I" (.int (8 : Int32))) (vf : Value) (hvf : vf.isRef = true) (S_f : Sta Z Z.heap "jdk/internal/util/Preconditions" "SIOOBE_FORMATTER" "Ljava/util/function/BiFunction;" vf) (hL : ∀ c ∈ cs, 0 ≤ c.toInt ∧ c.toInt < 256) (g_sb : n0 ≤ sb) (nsv : sb ≠ va) (S : Sbd Z h0 sb va kv (cs.map own_b)) (B : Byu Z h0 x t kt ds) (hl : cs.length ≤ 16) :
    Ct l Z n0 "java/lang/AbstractStringBuilder" "inflateIfNeededFor" "(Ljava/lang/String;)V" [] jdk_68_method_71_code 2 none R_infl #[.ref sb, .ref x] h0 (fun v h => v = none ∧ Keep h0 h [sb] ∧ ∃ (vb : Addr) (kb : ClassId), n0 ≤ vb ∧ h0.size ≤ vb ∧ Sbu Z h sb vb kb cs) := by
  obtain ⟨E_x, F_x_coder, F_x_value, V_t⟩ := B
  have E_sb := S.1
  have F_sb_coder := S.2.2.1
  refine Ct.of_go pf_infl (Ls := #[.val (.ref sb), .val (.ref x)]) (fun m => by first | rfl | (simp [entryFrame, mkF, argsToLocals, Value.category]; done)) ?_
  show GM_infl l Z n0 (fun v h => v = none ∧ Keep h0 h [sb] ∧ ∃ (vb : Addr) (kb : ClassId), n0 ≤ vb ∧ h0.size ≤ vb ∧ Sbu Z h sb vb kb cs) h0 0 0 0 #[.val (.ref sb), .val (.ref x)] []
  refine Go.getS (wd_97 hw) Via.refl (S_cs.ext O.2) d_infl_0 ?_
  -- at pc 3: pc 3: ifCond .ifCond .eq 18 stack [(.int z)]
  -- not: z = (0 : Int32)
  refine Go.ifF d_infl_3 (feq (hcs)).1 ?_
  refine Go.aloadN d_infl_6 rfl rfl ?_
  refine Go.getF (wd_100 hw) Via.refl F_sb_coder d_infl_7 ?_
  refine Go.aloadN d_infl_10 rfl rfl ?_
  -- at pc 11: pc 11: invokevirtual .invokevirtual 40 stack [(.ref x), (.int (0 : Int32))]
  refine Go.callV (I' := IN) (hI := nQ) x [] [(.int (0 : Int32))] (ct_scoder1 l Z a0 hw n0 x _ O z S_cs hcs F_x_coder) E_x (wd_139 hw) (wd_118 hw) (nf_sel (wd_120 hw)) (wd_120 hw) (wd_119 hw) (wd_3 hw) (wd_121 hw) (by decide) pd_0 rfl rfl rfl (Nat.le_of_ble_eq_true rfl) (Nat.le_of_ble_eq_true rfl) (Nat.le_of_ble_eq_true rfl) (Nat.le_of_ble_eq_true rfl) d_infl_11 ?_
  rintro _ _ ⟨rfl, rfl⟩
  show GM_infl l Z n0 (fun v h => v = none ∧ Keep h0 h [sb] ∧ ∃ (vb : Addr) (kb : ClassId), n0 ≤ vb ∧ h0.size ≤ vb ∧ Sbu Z h sb vb kb cs) h0 0 0 14 #[.val (.ref sb), .val (.ref x)] [(.int (1 : Int32)), (.int (0 : Int32))]
  -- not: (0 : Int32) = (1 : Int32)
  refine Go.icF d_infl_14 (feq (by decide)).1 ?_
  refine Go.aloadN d_infl_17 rfl rfl ?_
  -- at pc 18: pc 18: invokevirtual .invokevirtual 195 stack [(.ref sb)]
  refine Go.callP (I' := IN) (hI := nQ) sb [] [] (ct_binf l Z a0 hw n0 sb va kv cs _ hz O z S_cs hcs S_ad S_hi S_lo vf hvf S_f hL hl g_sb nsv S) E_sb (wd_243 hw) (wd_244 hw) (sel_priv2 (y := (⟨"java/lang/AbstractStringBuilder", "inflate", "()V"⟩ : MethodName)) (show Ord Z "java/lang/AbstractStringBuilder" from Ord.sel (wd_127 hw)) (wd_244 hw) (wd_245 hw) (by decide)) (wd_245 hw) (wd_94 hw) (wd_247 hw) (by decide) pd_28 rfl rfl rfl (Nat.le_of_ble_eq_true rfl) (Nat.le_of_ble_eq_true rfl) (Nat.le_of_ble_eq_true rfl) (Nat.le_of_ble_eq_true rfl) d_infl_18 ?_
  rintro _ hp67 ⟨rfl, K1, vb, kb, q1, q2, q3⟩
  show GM_infl l Z n0 (fun v h => v = none ∧ Keep h0 h [sb] ∧ ∃ (vb : Addr) (kb : ClassId), n0 ≤ vb ∧ h0.size ≤ vb ∧ Sbu Z h sb vb kb cs) hp67 1 32 21 #[.val (.ref sb), .val (.ref x)] []
  -- at pc 21: pc 21: return .return_ stack []
  exact Go.return_ d_infl_21 rfl (by decide) (by decide) ⟨rfl, K1, vb, kb, q1, q2, q3⟩
theorem own_putN {Z : State} {h : Heap} {va : Addr} {kv : ClassId} {n p q : Int32} {N : Nat} {cs bs : List Int32} (hp : p.toNatClampNeg = cs.length) (hq : q.toNatClampNeg = bs.length) (hl : cs.length + bs.length ≤ N) (V : Arv Z h va kv .byte n ((cs.map Value.int ++ List.replicate (N - cs.length) (Value.int 0)).take p.toNatClampNeg ++ bs.map Value.int ++ (cs.map Value.int ++ List.replicate (N - cs.length) (Value.int 0)).drop (p.toNatClampNeg + q.toNatClampNeg)) (.int (0 : Int32))) : Arv Z h va kv .byte n ((cs ++ bs).map Value.int) (.int (0 : Int32)) := by
  rw [hp, hq] at V
  have e1 : (cs.map Value.int ++ List.replicate (N - cs.length) (Value.int 0)).take cs.length = cs.map Value.int := by simp
  have e2 : (cs.map Value.int ++ List.replicate (N - cs.length) (Value.int 0)).drop (cs.length + bs.length) = List.replicate (N - cs.length - bs.length) (Value.int 0) := by
    rw [List.drop_append]; simp
  rw [e1, e2, ← List.map_append] at V
  exact V.pad fun i => (pad_rep _ _ _ i).symm
theorem ct_getbUL (l : Launch) (Z : State) (a0 : Array Value) (hw : ∀ d ∈ tables_1, d.before a0 Z = true) (n0 : Nat) (va x t : Addr) (kv kt : ClassId) (cs ds : List Int32) (h0 : Heap) (hz : n0 ≤ h0.size) (O : Old Z n0 h0) (z : Int32) (S_cs : Sta Z Z.heap "java/lang/String" "COMPACT_STRINGS" "Z" (.int z)) (hcs : ¬ z = 0) (S_ad : Sta Z Z.heap "java/lang/StringUTF16" "$assertionsDisabled" "Z" (.int (1 : Int32))) (S_hi : Sta Z Z.heap "java/lang/StringUTF16" "HI_BYTE_SHIFT" "I" (.int (0 : Int32))) (S_lo : Sta Z Z.heap "java/lang/StringUTF16" "LO_BYTE_SHIFT" "I" (.int (8 : Int32))) (vf : Value) (hvf : vf.isRef = true) (S_f : Sta Z Z.heap "jdk/internal/util/Preconditions" "SIOOBE_FORMATTER" "Ljava/util/function/BiFunction;" vf) (g_va : n0 ≤ va) (ntv : t ≠ va) (hD : ∀ c ∈ ds, 0 ≤ c.toInt ∧ c.toInt < 256) (V_va : Arv Z h0 va kv .byte (Int32.ofNat (2 * 16)) ((enc2 cs).map Value.int) (.int (0 : Int32))) (B : Byt Z h0 x t kt (ds.map own_b)) (hl : cs.length + ds.length ≤ 16) :
    Ct l Z n0 "java/lang/String" "getBytes" "([BIB)V" [] jdk_42_method_147_code 4 none R_getb #[.ref x, .ref va, .int (Int32.ofNat cs.length), .int (1 : Int32)] h0 (fun v h => v = none ∧ Keep h0 h [va] ∧ Arv Z h va kv .byte (Int32.ofNat (2 * 16)) ((enc2 (cs ++ ds)).map Value.int) (.int (0 : Int32))) := by
  obtain ⟨E_x, F_x_coder, F_x_value, V_t⟩ := B
  rw [List.length_map] at V_t
  refine Ct.of_go pf_getb (Ls := #[.val (.ref x), .val (.ref va), .val (.int (Int32.ofNat cs.length)), .val (.int (1 : Int32))]) (fun m => by first | rfl | (simp [entryFrame, mkF, argsToLocals, Value.category]; done)) ?_
  show GM_getb l Z n0 (fun v h => v = none ∧ Keep h0 h [va] ∧ Arv Z h va kv .byte (Int32.ofNat (2 * 16)) ((enc2 (cs ++ ds)).map Value.int) (.int (0 : Int32))) h0 0 0 0 #[.val (.ref x), .val (.ref va), .val (.int (Int32.ofNat cs.length)), .val (.int (1 : Int32))] []
  refine Go.aloadN d_getb_0 rfl rfl ?_
  -- at pc 1: pc 1: invokevirtual .invokevirtual 335 stack [(.ref x)]
  refine Go.callV (I' := IN) (hI := nQ) x [] [] (ct_scoder l Z a0 hw n0 x _ O z S_cs hcs F_x_coder) E_x (wd_117 hw) (wd_118 hw) (nf_sel (wd_120 hw)) (wd_120 hw) (wd_119 hw) (wd_3 hw) (wd_121 hw) (by decide) pd_0 rfl rfl rfl (Nat.le_of_ble_eq_true rfl) (Nat.le_of_ble_eq_true rfl) (Nat.le_of_ble_eq_true rfl) (Nat.le_of_ble_eq_true rfl) d_getb_1 ?_
  rintro _ _ ⟨rfl, rfl⟩
  show GM_getb l Z n0 (fun v h => v = none ∧ Keep h0 h [va] ∧ Arv Z h va kv .byte (Int32.ofNat (2 * 16)) ((enc2 (cs ++ ds)).map Value.int) (.int (0 : Int32))) h0 0 0 4 #[.val (.ref x), .val (.ref va), .val (.int (Int32.ofNat cs.length)), .val (.int (1 : Int32))] [(.int (0 : Int32))]
  refine Go.iloadN d_getb_4 rfl ?_
  -- at pc 5: pc 5: if_icmp .if_icmp .ne 23 stack [(.int (1 : Int32)), (.int (0 : Int32))]
  -- not: (0 : Int32) = (1 : Int32)
  refine Go.icT 28 d_getb_5 (feq (by decide)).2 (by decide) (by decide) ?_
  refine Go.aloadN d_getb_28 rfl rfl ?_
  refine Go.getF (wd_29 hw) Via.refl F_x_value d_getb_29 ?_
  refine Go.iconst 0 d_getb_32 rfl ?_
  refine Go.aloadN d_getb_33 rfl rfl ?_
  refine Go.iloadN d_getb_34 rfl ?_
  refine Go.aloadN d_getb_35 rfl rfl ?_
  refine Go.getF (wd_29 hw) Via.refl F_x_value d_getb_36 ?_
  refine Go.arraylength V_t d_getb_39 ?_
  -- at pc 40: pc 40: invokestatic .invokestatic 106 stack [(.int (Int32.ofNat ds.length)), (.int (Int32.ofNat cs.length)), (.ref va), (.int (0 : Int32)), (.ref t)]
  refine Go.callS (I' := IN) (hI := nQ) [(.ref t), (.int (0 : Int32)), (.ref va), (.int (Int32.ofNat cs.length)), (.int (Int32.ofNat ds.length))] [] (ct_linf l Z a0 hw n0 t va kt kv ds cs (Int32.ofNat ds.length) 16 _ hz O S_ad S_hi S_lo vf hvf S_f hD (by decide) hl g_va ntv (fun i hi => (own_idx hi (by omega)).2) V_t V_va) (wd_269 hw) (wd_250 hw) (wd_219 hw) (wd_251 hw) (by decide) pd_26 rfl rfl rfl (Nat.le_of_ble_eq_true rfl) (Nat.le_of_ble_eq_true rfl) (Nat.le_of_ble_eq_true rfl) (Nat.le_of_ble_eq_true rfl) d_getb_40 ?_
  rintro _ hp69 ⟨rfl, K1, V1⟩
  show GM_getb l Z n0 (fun v h => v = none ∧ Keep h0 h [va] ∧ Arv Z h va kv .byte (Int32.ofNat (2 * 16)) ((enc2 (cs ++ ds)).map Value.int) (.int (0 : Int32))) hp69 0 0 43 #[.val (.ref x), .val (.ref va), .val (.int (Int32.ofNat cs.length)), .val (.int (1 : Int32))] []
  -- at pc 43: pc 43: return .return_ stack []
  exact Go.return_ d_getb_43 rfl (by decide) (by decide) ⟨rfl, K1, V1⟩
theorem ct_getbUU (l : Launch) (Z : State) (a0 : Array Value) (hw : ∀ d ∈ tables_1, d.before a0 Z = true) (n0 : Nat) (va x t : Addr) (kv kt : ClassId) (cs ds : List Int32) (h0 : Heap) (O : Old Z n0 h0) (z : Int32) (S_cs : Sta Z Z.heap "java/lang/String" "COMPACT_STRINGS" "Z" (.int z)) (hcs : ¬ z = 0) (g_va : n0 ≤ va) (V_va : Arv Z h0 va kv .byte (Int32.ofNat (2 * 16)) ((enc2 cs).map Value.int) (.int (0 : Int32))) (B : Byu Z h0 x t kt ds) (hl : cs.length + ds.length ≤ 16) :
    Ct l Z n0 "java/lang/String" "getBytes" "([BIB)V" [] jdk_42_method_147_code 4 none R_getb #[.ref x, .ref va, .int (Int32.ofNat cs.length), .int (1 : Int32)] h0 (fun v h => v = none ∧ Keep h0 h [va] ∧ Arv Z h va kv .byte (Int32.ofNat (2 * 16)) ((enc2 (cs ++ ds)).map Value.int) (.int (0 : Int32))) := by
  obtain ⟨E_x, F_x_coder, F_x_value, V_t⟩ := B
  refine Ct.of_go pf_getb (Ls := #[.val (.ref x), .val (.ref va), .val (.int (Int32.ofNat cs.length)), .val (.int (1 : Int32))]) (fun m => by first | rfl | (simp [entryFrame, mkF, argsToLocals, Value.category]; done)) ?_
  show GM_getb l Z n0 (fun v h => v = none ∧ Keep h0 h [va] ∧ Arv Z h va kv .byte (Int32.ofNat (2 * 16)) ((enc2 (cs ++ ds)).map Value.int) (.int (0 : Int32))) h0 0 0 0 #[.val (.ref x), .val (.ref va), .val (.int (Int32.ofNat cs.length)), .val (.int (1 : Int32))] []
  refine Go.aloadN d_getb_0 rfl rfl ?_
  -- at pc 1: pc 1: invokevirtual .invokevirtual 335 stack [(.ref x)]
  refine Go.callV (I' := IN) (hI := nQ) x [] [] (ct_scoder1 l Z a0 hw n0 x _ O z S_cs hcs F_x_coder) E_x (wd_117 hw) (wd_118 hw) (nf_sel (wd_120 hw)) (wd_120 hw) (wd_119 hw) (wd_3 hw) (wd_121 hw) (by decide) pd_0 rfl rfl rfl (Nat.le_of_ble_eq_true rfl) (Nat.le_of_ble_eq_true rfl) (Nat.le_of_ble_eq_true rfl) (Nat.le_of_ble_eq_true rfl) d_getb_1 ?_
  rintro _ _ ⟨rfl, rfl⟩
  show GM_getb l Z n0 (fun v h => v = none ∧ Keep h0 h [va] ∧ Arv Z h va kv .byte (Int32.ofNat (2 * 16)) ((enc2 (cs ++ ds)).map Value.int) (.int (0 : Int32))) h0 0 0 4 #[.val (.ref x), .val (.ref va), .val (.int (Int32.ofNat cs.length)), .val (.int (1 : Int32))] [(.int (1 : Int32))]
  refine Go.iloadN d_getb_4 rfl ?_
  -- at pc 5: pc 5: if_icmp .if_icmp .ne 23 stack [(.int (1 : Int32)), (.int (1 : Int32))]
  -- (1 : Int32) = (1 : Int32)
  refine Go.icF d_getb_5 (teq (rfl)).2 ?_
  refine Go.aloadN d_getb_8 rfl rfl ?_
  refine Go.getF (wd_29 hw) Via.refl F_x_value d_getb_9 ?_
  refine Go.iconst 0 d_getb_12 rfl ?_
  refine Go.aloadN d_getb_13 rfl rfl ?_
  refine Go.iloadN d_getb_14 rfl ?_
  refine Go.iloadN d_getb_15 rfl ?_
  refine Go.ishl d_getb_16 ?_
  rw [show ((Int32.ofNat cs.length) <<< ((1 : Int32) &&& 31)) = (Int32.ofNat (2 * cs.length)) from (own_shl1 _)]
  refine Go.aloadN d_getb_17 rfl rfl ?_
  refine Go.getF (wd_29 hw) Via.refl F_x_value d_getb_18 ?_
  refine Go.arraylength V_t d_getb_21 ?_
  refine Go.copyB (I' := IN) (hI := nI) ((enc2 ds).map Value.int) V_t (V_va.pad (pad_rep _ _ (32 - (enc2 cs).length))) rfl (wd_145 hw) (wd_148 hw) (wd_146 hw) (wd_147 hw) (by decide) (own_nneg (by omega)) (own_nneg (by omega)) (by rw [own_clamp (n := 2 * ds.length) (by omega)]; show 0 + 2 * ds.length ≤ 2 * ds.length; omega) (by rw [own_clamp (n := 2 * cs.length) (by omega), own_clamp (n := 2 * ds.length) (by omega), own_clamp (n := 2 * 16) (by omega)]; omega) (by rw [own_clamp (n := 2 * ds.length) (by omega)]; exact own_range (by rw [List.length_map, enc2_len])) (by rw [own_clamp (n := 2 * cs.length) (by omega), own_clamp (n := 2 * ds.length) (by omega)]; simp only [List.length_append, List.length_map, List.length_replicate, enc2_len]; omega) g_va d_getb_22 rfl (by decide) (by decide) fun h1 K1 V1 => ?_
  replace V1 := own_putN (N := 32) (cs := enc2 cs) (bs := enc2 ds) (by rw [own_clamp (by omega), enc2_len]) (by rw [own_clamp (by omega), enc2_len]) (by rw [enc2_len, enc2_len]; omega) V1
  rw [← enc2_app] at V1
  show GM_getb l Z n0 (fun v h => v = none ∧ Keep h0 h [va] ∧ Arv Z h va kv .byte (Int32.ofNat (2 * 16)) ((enc2 (cs ++ ds)).map Value.int) (.int (0 : Int32))) h1 0 0 25 #[.val (.ref x), .val (.ref va), .val (.int (Int32.ofNat cs.length)), .val (.int (1 : Int32))] []
  refine Go.goto 43 d_getb_25 (by decide) (by decide) ?_
  -- at pc 43: pc 43: return .return_ stack []
  exact Go.return_ d_getb_43 rfl (by decide) (by decide) ⟨rfl, K1, V1⟩
theorem ct_getbU (l : Launch) (Z : State) (a0 : Array Value) (hw : ∀ d ∈ tables_1, d.before a0 Z = true) (n0 : Nat) (va x t : Addr) (kv kt : ClassId) (cs ds : List Int32) (h0 : Heap) (hz : n0 ≤ h0.size) (O : Old Z n0 h0) (z : Int32) (S_cs : Sta Z Z.heap "java/lang/String" "COMPACT_STRINGS" "Z" (.int z)) (hcs : ¬ z = 0) (S_ad : Sta Z Z.heap "java/lang/StringUTF16" "$assertionsDisabled" "Z" (.int (1 : Int32))) (S_hi : Sta Z Z.heap "java/lang/StringUTF16" "HI_BYTE_SHIFT" "I" (.int (0 : Int32))) (S_lo : Sta Z Z.heap "java/lang/StringUTF16" "LO_BYTE_SHIFT" "I" (.int (8 : Int32))) (vf : Value) (hvf : vf.isRef = true) (S_f : Sta Z Z.heap "jdk/internal/util/Preconditions" "SIOOBE_FORMATTER" "Ljava/util/function/BiFunction;" vf) (g_va : n0 ≤ va) (ntv : t ≠ va) (hC : Chr ds) (V_va : Arv Z h0 va kv .byte (Int32.ofNat (2 * 16)) ((enc2 cs).map Value.int) (.int (0 : Int32))) (B : Cst Z h0 x t kt ds) (hl : cs.length + ds.length ≤ 16) :
    Ct l Z n0 "java/lang/String" "getBytes" "([BIB)V" [] jdk_42_method_147_code 4 none R_getb #[.ref x, .ref va, .int (Int32.ofNat cs.length), .int (1 : Int32)] h0 (fun v h => v = none ∧ Keep h0 h [va] ∧ Arv Z h va kv .byte (Int32.ofNat (2 * 16)) ((enc2 (cs ++ ds)).map Value.int) (.int (0 : Int32))) := by
  rcases B with ⟨hL, B⟩ | ⟨hL, B⟩
  · exact ct_getbUL l Z a0 hw n0 va x t kv kt cs ds h0 hz O z S_cs hcs S_ad S_hi S_lo vf hvf S_f g_va ntv (hL.both hC) V_va B hl
  · exact ct_getbUU l Z a0 hw n0 va x t kv kt cs ds h0 O z S_cs hcs g_va V_va B hl
theorem ct_putsU (l : Launch) (Z : State) (a0 : Array Value) (hw : ∀ d ∈ tables_1, d.before a0 Z = true) (n0 : Nat) (sb va x t : Addr) (kv kt : ClassId) (cs ds : List Int32) (h0 : Heap) (hz : n0 ≤ h0.size) (O : Old Z n0 h0) (z : Int32) (S_cs : Sta Z Z.heap "java/lang/String" "COMPACT_STRINGS" "Z" (.int z)) (hcs : ¬ z = 0) (S_ad : Sta Z Z.heap "java/lang/StringUTF16" "$assertionsDisabled" "Z" (.int (1 : Int32))) (S_hi : Sta Z Z.heap "java/lang/StringUTF16" "HI_BYTE_SHIFT" "I" (.int (0 : Int32))) (S_lo : Sta Z Z.heap "java/lang/StringUTF16" "LO_BYTE_SHIFT" "I" (.int (8 : Int32))) (vf : Value) (hvf : vf.isRef = true) (S_f : Sta Z Z.heap "jdk/internal/util/Preconditions" "SIOOBE_FORMATTER" "Ljava/util/function/BiFunction;" vf) (g_va : n0 ≤ va) (ntv : t ≠ va) (hC : Chr ds) (S : Sbu Z h0 sb va kv cs) (B : Cst Z h0 x t kt ds) (hl : cs.length + ds.length ≤ 16) :
    Ct l Z n0 "java/lang/AbstractStringBuilder" "putStringAt" "(ILjava/lang/String;)V" [] jdk_68_method_73_code 3 none R_puts #[.ref sb, .int (Int32.ofNat cs.length), .ref x] h0 (fun v h => v = none ∧ Keep h0 h [va] ∧ Arv Z h va kv .byte (Int32.ofNat (2 * 16)) ((enc2 (cs ++ ds)).map Value.int) (.int (0 : Int32))) := by
  have E_x := B.exa
  obtain ⟨E_sb, F_sb_value, F_sb_coder, F_sb_count, V_va, F_sb_maybeLatin1⟩ := S
  refine Ct.of_go pf_puts (Ls := #[.val (.ref sb), .val (.int (Int32.ofNat cs.length)), .val (.ref x)]) (fun m => by first | rfl | (simp [entryFrame, mkF, argsToLocals, Value.category]; done)) ?_
  show GM_puts l Z n0 (fun v h => v = none ∧ Keep h0 h [va] ∧ Arv Z h va kv .byte (Int32.ofNat (2 * 16)) ((enc2 (cs ++ ds)).map Value.int) (.int (0 : Int32))) h0 0 0 0 #[.val (.ref sb), .val (.int (Int32.ofNat cs.length)), .val (.ref x)] []
  refine Go.aloadN d_puts_0 rfl rfl ?_
  refine Go.aloadN d_puts_1 rfl rfl ?_
  -- at pc 2: pc 2: invokevirtual .invokevirtual 397 stack [(.ref x), (.ref sb)]
  refine Go.callP (I' := IN) (hI := nQ) sb [(.ref x)] [] (ct_inflU l Z a0 hw n0 sb x t kt ds _ O z S_cs hcs E_sb F_sb_coder B) E_sb (wd_134 hw) (wd_135 hw) (sel_priv2 (y := (⟨"java/lang/AbstractStringBuilder", "inflateIfNeededFor", "(Ljava/lang/String;)V"⟩ : MethodName)) (show Ord Z "java/lang/AbstractStringBuilder" from Ord.sel (wd_127 hw)) (wd_135 hw) (wd_136 hw) (by decide)) (wd_136 hw) (wd_94 hw) (wd_138 hw) (by decide) pd_2 rfl rfl rfl (Nat.le_of_ble_eq_true rfl) (Nat.le_of_ble_eq_true rfl) (Nat.le_of_ble_eq_true rfl) (Nat.le_of_ble_eq_true rfl) d_puts_2 ?_
  rintro _ _ ⟨rfl, rfl⟩
  show GM_puts l Z n0 (fun v h => v = none ∧ Keep h0 h [va] ∧ Arv Z h va kv .byte (Int32.ofNat (2 * 16)) ((enc2 (cs ++ ds)).map Value.int) (.int (0 : Int32))) h0 1 32 5 #[.val (.ref sb), .val (.int (Int32.ofNat cs.length)), .val (.ref x)] []
  refine Go.aloadN d_puts_5 rfl rfl ?_
  refine Go.aloadN d_puts_6 rfl rfl ?_
  refine Go.getF (wd_98 hw) Via.refl F_sb_value d_puts_7 ?_
  refine Go.iloadN d_puts_10 rfl ?_
  refine Go.aloadN d_puts_11 rfl rfl ?_
  refine Go.getF (wd_100 hw) Via.refl F_sb_coder d_puts_12 ?_
  -- at pc 15: pc 15: invokevirtual .invokevirtual 399 stack [(.int (1 : Int32)), (.int (Int32.ofNat cs.length)), (.ref va), (.ref x)]
  refine Go.callV (I' := IN) (hI := nQ) x [(.ref va), (.int (Int32.ofNat cs.length)), (.int (1 : Int32))] [] (ct_getbU l Z a0 hw n0 va x t kv kt cs ds _ hz O z S_cs hcs S_ad S_hi S_lo vf hvf S_f g_va ntv hC V_va B hl) E_x (wd_140 hw) (wd_141 hw) (nf_sel (wd_143 hw)) (wd_143 hw) (wd_142 hw) (wd_3 hw) (wd_144 hw) (by decide) pd_3 rfl rfl rfl (Nat.le_of_ble_eq_true rfl) (Nat.le_of_ble_eq_true rfl) (Nat.le_of_ble_eq_true rfl) (Nat.le_of_ble_eq_true rfl) d_puts_15 ?_
  rintro _ hp72 ⟨rfl, K1, V1⟩
  show GM_puts l Z n0 (fun v h => v = none ∧ Keep h0 h [va] ∧ Arv Z h va kv .byte (Int32.ofNat (2 * 16)) ((enc2 (cs ++ ds)).map Value.int) (.int (0 : Int32))) hp72 1 32 18 #[.val (.ref sb), .val (.int (Int32.ofNat cs.length)), .val (.ref x)] []
  -- at pc 18: pc 18: return .return_ stack []
  exact Go.return_ d_puts_18 rfl (by decide) (by decide) ⟨rfl, K1, V1⟩
theorem own_cap1 {k : Nat} (h : k ≤ 16) : ¬ (0 : Int32) < Int32.ofNat k - (16 : Int32) := by
  have q := own_cap k h
  rwa [own_shr0] at q
theorem ct_apAU (l : Launch) (Z : State) (a0 : Array Value) (hw : ∀ d ∈ tables_1, d.before a0 Z = true) (n0 : Nat) (sb va x t : Addr) (kv kt : ClassId) (cs ds : List Int32) (h0 : Heap) (hz : n0 ≤ h0.size) (O : Old Z n0 h0) (z : Int32) (S_cs : Sta Z Z.heap "java/lang/String" "COMPACT_STRINGS" "Z" (.int z)) (hcs : ¬ z = 0) (S_ad : Sta Z Z.heap "java/lang/StringUTF16" "$assertionsDisabled" "Z" (.int (1 : Int32))) (S_hi : Sta Z Z.heap "java/lang/StringUTF16" "HI_BYTE_SHIFT" "I" (.int (0 : Int32))) (S_lo : Sta Z Z.heap "java/lang/StringUTF16" "LO_BYTE_SHIFT" "I" (.int (8 : Int32))) (vf : Value) (hvf : vf.isRef = true) (S_f : Sta Z Z.heap "jdk/internal/util/Preconditions" "SIOOBE_FORMATTER" "Ljava/util/function/BiFunction;" vf) (g_sb : n0 ≤ sb) (nsv : sb ≠ va) (g_va : n0 ≤ va) (ntv : t ≠ va) (hC : Chr ds) (S : Sbu Z h0 sb va kv cs) (B : Cst Z h0 x t kt ds) (hl : cs.length + ds.length ≤ 16) :
    Ct l Z n0 "java/lang/AbstractStringBuilder" "append" "(Ljava/lang/String;)Ljava/lang/AbstractStringBuilder;" [] jdk_68_method_22_code 3 (some (.object "java/lang/AbstractStringBuilder")) R_apA #[.ref sb, .ref x] h0 (fun v h => v = some (.ref sb) ∧ Keep h0 h [sb, va] ∧ Sbu Z h sb va kv (cs ++ ds)) := by
  have E_x := B.exa
  have S0 := S
  obtain ⟨E_sb, F_sb_value, F_sb_coder, F_sb_count, V_va, F_sb_maybeLatin1⟩ := S
  refine Ct.of_go pf_apA (Ls := #[.val (.ref sb), .val (.ref x), .unset]) (fun m => by first | rfl | (simp [entryFrame, mkF, argsToLocals, Value.category]; done)) ?_
  show GM_apA l Z n0 (fun v h => v = some (.ref sb) ∧ Keep h0 h [sb, va] ∧ Sbu Z h sb va kv (cs ++ ds)) h0 0 0 0 #[.val (.ref sb), .val (.ref x), .unset] []
  have KK : Keep h0 h0 [sb, va] := Keep.refl _ _
  refine Go.aloadN d_apA_0 rfl rfl ?_
  refine Go.nnT 9 d_apA_1 (by decide) (by decide) ?_
  refine Go.aloadN d_apA_9 rfl rfl ?_
  -- at pc 10: pc 10: invokevirtual .invokevirtual 32 stack [(.ref x)]
  refine Go.callV (I' := IN) (hI := nQ) x [] [] (ct_slenC l Z a0 hw n0 x t kt ds _ O z S_cs hcs (by omega) B) E_x (wd_112 hw) (wd_113 hw) (nf_sel (wd_115 hw)) (wd_115 hw) (wd_114 hw) (wd_3 hw) (wd_116 hw) (by decide) pd_4 rfl rfl rfl (Nat.le_of_ble_eq_true rfl) (Nat.le_of_ble_eq_true rfl) (Nat.le_of_ble_eq_true rfl) (Nat.le_of_ble_eq_true rfl) d_apA_10 ?_
  rintro _ _ ⟨rfl, rfl⟩
  show GM_apA l Z n0 (fun v h => v = some (.ref sb) ∧ Keep h0 h [sb, va] ∧ Sbu Z h sb va kv (cs ++ ds)) h0 0 0 13 #[.val (.ref sb), .val (.ref x), .unset] [(.int (Int32.ofNat ds.length))]
  refine Go.istoreN (Ls' := #[.val (.ref sb), .val (.ref x), .val (.int (Int32.ofNat ds.length))]) d_apA_13 rfl ?_
  refine Go.aloadN d_apA_14 rfl rfl ?_
  refine Go.aloadN d_apA_15 rfl rfl ?_
  refine Go.getF (wd_122 hw) Via.refl F_sb_count d_apA_16 ?_
  refine Go.iloadN d_apA_19 rfl ?_
  refine Go.iadd d_apA_20 ?_
  -- at pc 21: pc 21: invokevirtual .invokevirtual 100 stack [(.int ((Int32.ofNat cs.length) + (Int32.ofNat ds.length))), (.ref sb)]
  refine Go.callP (I' := IN) (hI := nQ) sb [(.int ((Int32.ofNat cs.length) + (Int32.ofNat ds.length)))] [] (ct_ecap1 l Z a0 hw n0 sb va kv cs ((Int32.ofNat cs.length) + (Int32.ofNat ds.length)) _ S0 (by rw [own_cnt]; exact own_cap1 (by rw [List.length_append]; exact hl))) E_sb (wd_124 hw) (wd_125 hw) (sel_priv2 (y := (⟨"java/lang/AbstractStringBuilder", "ensureCapacityInternal", "(I)V"⟩ : MethodName)) (show Ord Z "java/lang/AbstractStringBuilder" from Ord.sel (wd_127 hw)) (wd_125 hw) (wd_126 hw) (by decide)) (wd_126 hw) (wd_94 hw) (wd_128 hw) (by decide) pd_1 rfl rfl rfl (Nat.le_of_ble_eq_true rfl) (Nat.le_of_ble_eq_true rfl) (Nat.le_of_ble_eq_true rfl) (Nat.le_of_ble_eq_true rfl) d_apA_21 ?_
  rintro _ _ ⟨rfl, rfl⟩
  show GM_apA l Z n0 (fun v h => v = some (.ref sb) ∧ Keep h0 h [sb, va] ∧ Sbu Z h sb va kv (cs ++ ds)) h0 0 0 24 #[.val (.ref sb), .val (.ref x), .val (.int (Int32.ofNat ds.length))] []
  refine Go.aloadN d_apA_24 rfl rfl ?_
  refine Go.aloadN d_apA_25 rfl rfl ?_
  refine Go.getF (wd_122 hw) Via.refl F_sb_count d_apA_26 ?_
  refine Go.aloadN d_apA_29 rfl rfl ?_
  -- at pc 30: pc 30: invokevirtual .invokevirtual 208 stack [(.ref x), (.int (Int32.ofNat cs.length)), (.ref sb)]
  refine Go.callP (I' := IN) (hI := nQ) sb [(.int (Int32.ofNat cs.length)), (.ref x)] [] (ct_putsU l Z a0 hw n0 sb va x t kv kt cs ds _ hz O z S_cs hcs S_ad S_hi S_lo vf hvf S_f g_va ntv hC S0 B hl) E_sb (wd_129 hw) (wd_130 hw) (sel_priv2 (y := (⟨"java/lang/AbstractStringBuilder", "putStringAt", "(ILjava/lang/String;)V"⟩ : MethodName)) (show Ord Z "java/lang/AbstractStringBuilder" from Ord.sel (wd_127 hw)) (wd_130 hw) (wd_131 hw) (by decide)) (wd_131 hw) (wd_94 hw) (wd_133 hw) (by decide) pd_5 rfl rfl rfl (Nat.le_of_ble_eq_true rfl) (Nat.le_of_ble_eq_true rfl) (Nat.le_of_ble_eq_true rfl) (Nat.le_of_ble_eq_true rfl) d_apA_30 ?_
  rintro _ hp75 ⟨rfl, K75, V1⟩
  replace E_x := E_x.keep K75
  replace E_sb := E_sb.keep K75
  replace F_sb_value := F_sb_value.keep K75 (ninS nsv nin0)
  replace F_sb_coder := F_sb_coder.keep K75 (ninS nsv nin0)
  replace F_sb_count := F_sb_count.keep K75 (ninS nsv nin0)
  replace F_sb_maybeLatin1 := F_sb_maybeLatin1.keep K75 (ninS nsv nin0)
  replace KK : Keep h0 hp75 [sb, va] := KK.trans K75 (allS (Or.inl (by simp)) (all0))
  show GM_apA l Z n0 (fun v h => v = some (.ref sb) ∧ Keep h0 h [sb, va] ∧ Sbu Z h sb va kv (cs ++ ds)) hp75 1 32 33 #[.val (.ref sb), .val (.ref x), .val (.int (Int32.ofNat ds.length))] []
  refine Go.aloadN d_apA_33 rfl rfl ?_
  refine Go.dup d_apA_34 rfl ?_
  refine Go.getF (wd_122 hw) Via.refl F_sb_count d_apA_35 ?_
  refine Go.iloadN d_apA_38 rfl ?_
  refine Go.iadd d_apA_39 ?_
  refine Go.putF (I' := IN) (hI := nI) (wd_122 hw) Via.refl F_sb_count E_sb (Or.inl (wd_123 hw)) (wd_85 hw) (ty := .int) (by decide) rfl rfl g_sb d_apA_40 fun hp76 W76 => ?_
  have K76 := Keep.of_wr W76
  replace F_sb_value := F_sb_value.other W76 (Or.inr (slot_ne (Or.inl (wd_99 hw)) (Or.inl (wd_123 hw)) (by decide) (t := (.array .byte)) (t' := .int) (by decide) (by decide)))
  replace F_sb_coder := F_sb_coder.other W76 (Or.inr (slot_ne (Or.inl (wd_101 hw)) (Or.inl (wd_123 hw)) (by decide) (t := .byte) (t' := .int) (by decide) (by decide)))
  replace F_sb_count := F_sb_count.same W76
  replace F_sb_maybeLatin1 := F_sb_maybeLatin1.other W76 (Or.inr (slot_ne (Or.inl (wd_271 hw)) (Or.inl (wd_123 hw)) (by decide) (t := .boolean) (t' := .int) (by decide) (by decide)))
  replace E_x := E_x.keep K76
  replace E_sb := E_sb.keep K76
  replace V1 := V1.keep K76 (ninS (Ne.symm nsv) nin0)
  replace KK : Keep h0 hp76 [sb, va] := KK.trans K76 (allS (Or.inl (by simp)) (all0))
  refine Go.aloadN d_apA_43 rfl rfl ?_
  -- at pc 44: pc 44: areturn .areturn stack [(.ref sb)]
  exact Go.areturn d_apA_44 rfl rfl rfl (by decide) (by decide) ⟨rfl, KK, E_sb, F_sb_value, F_sb_coder, by rw [← own_cnt]; exact F_sb_count, V1, F_sb_maybeLatin1⟩
theorem ct_apU (l : Launch) (Z : State) (a0 : Array Value) (hw : ∀ d ∈ tables_1, d.before a0 Z = true) (n0 : Nat) (sb va x t : Addr) (kv kt : ClassId) (cs ds : List Int32) (h0 : Heap) (hz : n0 ≤ h0.size) (O : Old Z n0 h0) (z : Int32) (S_cs : Sta Z Z.heap "java/lang/String" "COMPACT_STRINGS" "Z" (.int z)) (hcs : ¬ z = 0) (S_ad : Sta Z Z.heap "java/lang/StringUTF16" "$assertionsDisabled" "Z" (.int (1 : Int32))) (S_hi : Sta Z Z.heap "java/lang/StringUTF16" "HI_BYTE_SHIFT" "I" (.int (0 : Int32))) (S_lo : Sta Z Z.heap "java/lang/StringUTF16" "LO_BYTE_SHIFT" "I" (.int (8 : Int32))) (vf : Value) (hvf : vf.isRef = true) (S_f : Sta Z Z.heap "jdk/internal/util/Preconditions" "SIOOBE_FORMATTER" "Ljava/util/function/BiFunction;" vf) (g_sb : n0 ≤ sb) (nsv : sb ≠ va) (g_va : n0 ≤ va) (ntv : t ≠ va) (hC : Chr ds) (S : Sbu Z h0 sb va kv cs) (B : Cst Z h0 x t kt ds) (hl : cs.length + ds.length ≤ 16) :
    Ct l Z n0 "java/lang/StringBuilder" "append" "(Ljava/lang/String;)Ljava/lang/StringBuilder;" [] jdk_67_method_7_code 2 (some (.object "java/lang/StringBuilder")) R_ap #[.ref sb, .ref x] h0 (fun v h => v = some (.ref sb) ∧ Keep h0 h [sb, va] ∧ Sbu Z h sb va kv (cs ++ ds)) := by
  have E_sb := S.1
  refine Ct.of_go pf_ap (Ls := #[.val (.ref sb), .val (.ref x)]) (fun m => by first | rfl | (simp [entryFrame, mkF, argsToLocals, Value.category]; done)) ?_
  show GM_ap l Z n0 (fun v h => v = some (.ref sb) ∧ Keep h0 h [sb, va] ∧ Sbu Z h sb va kv (cs ++ ds)) h0 0 0 0 #[.val (.ref sb), .val (.ref x)] []
  refine Go.aloadN d_ap_0 rfl rfl ?_
  refine Go.aloadN d_ap_1 rfl rfl ?_
  -- at pc 2: pc 2: invokespecial .invokespecial 29 stack [(.ref x), (.ref sb)]
  refine Go.callSup (I' := IN) (hI := nQ) sb [(.ref x)] [] (ct_apAU l Z a0 hw n0 sb va x t kv kt cs ds _ hz O z S_cs hcs S_ad S_hi S_lo vf hvf S_f g_sb nsv g_va ntv hC S B hl) E_sb (show Ord Z "java/lang/AbstractStringBuilder" from Ord.sel (wd_127 hw)) (wd_107 hw) (wd_108 hw) (wd_109 hw) (wd_94 hw) (wd_111 hw) (by decide) (by decide) pd_6 rfl rfl rfl (Nat.le_of_ble_eq_true rfl) (Nat.le_of_ble_eq_true rfl) (Nat.le_of_ble_eq_true rfl) (Nat.le_of_ble_eq_true rfl) d_ap_2 ?_
  rintro _ hp77 ⟨rfl, K1, S1⟩
  show GM_ap l Z n0 (fun v h => v = some (.ref sb) ∧ Keep h0 h [sb, va] ∧ Sbu Z h sb va kv (cs ++ ds)) hp77 1 32 5 #[.val (.ref sb), .val (.ref x)] [(.ref sb)]
  refine Go.pop d_ap_5 rfl ?_
  refine Go.aloadN d_ap_6 rfl rfl ?_
  -- at pc 7: pc 7: areturn .areturn stack [(.ref sb)]
  exact Go.areturn d_ap_7 rfl rfl rfl (by decide) (by decide) ⟨rfl, K1, S1⟩
theorem ct_putsLU (l : Launch) (Z : State) (a0 : Array Value) (hw : ∀ d ∈ tables_1, d.before a0 Z = true) (n0 : Nat) (sb va x t : Addr) (kv kt : ClassId) (cs ds : List Int32) (h0 : Heap) (hz : n0 ≤ h0.size) (O : Old Z n0 h0) (z : Int32) (S_cs : Sta Z Z.heap "java/lang/String" "COMPACT_STRINGS" "Z" (.int z)) (hcs : ¬ z = 0) (S_ad : Sta Z Z.heap "java/lang/StringUTF16" "$assertionsDisabled" "Z" (.int (1 : Int32))) (S_hi : Sta Z Z.heap "java/lang/StringUTF16" "HI_BYTE_SHIFT" "I" (.int (0 : Int32))) (S_lo : Sta Z Z.heap "java/lang/StringUTF16" "LO_BYTE_SHIFT" "I" (.int (8 : Int32))) (vf : Value) (hvf : vf.isRef = true) (S_f : Sta Z Z.heap "jdk/internal/util/Preconditions" "SIOOBE_FORMATTER" "Ljava/util/function/BiFunction;" vf) (hL : ∀ c ∈ cs, 0 ≤ c.toInt ∧ c.toInt < 256) (g_sb : n0 ≤ sb) (nsv : sb ≠ va) (S : Sbd Z h0 sb va kv (cs.map own_b)) (B : Byu Z h0 x t kt ds) (nxs : x ≠ sb) (nts : t ≠ sb) (hC : Chr ds) (hD : ¬ Lat ds) (hl : cs.length + ds.length ≤ 16) :
    Ct l Z n0 "java/lang/AbstractStringBuilder" "putStringAt" "(ILjava/lang/String;)V" [] jdk_68_method_73_code 3 none R_puts #[.ref sb, .int (Int32.ofNat cs.length), .ref x] h0 (fun v h => v = none ∧ Keep h0 h [sb] ∧ ∃ (vb : Addr) (kb : ClassId), n0 ≤ vb ∧ h0.size ≤ vb ∧ Exa Z h sb "java/lang/StringBuilder" ∧ Fld Z h sb "java/lang/AbstractStringBuilder" "value" "[B" (.ref vb) ∧ Fld Z h sb "java/lang/AbstractStringBuilder" "coder" "B" (.int (1 : Int32)) ∧ Fld Z h sb "java/lang/AbstractStringBuilder" "count" "I" (.int (Int32.ofNat cs.length)) ∧ Arv Z h vb kb .byte (Int32.ofNat (2 * 16)) ((enc2 (cs ++ ds)).map Value.int) (.int (0 : Int32)) ∧ Fld Z h sb "java/lang/AbstractStringBuilder" "maybeLatin1" "Z" (.int (0 : Int32))) := by
  have E_x := B.1
  have E_sb := S.1
  refine Ct.of_go pf_puts (Ls := #[.val (.ref sb), .val (.int (Int32.ofNat cs.length)), .val (.ref x)]) (fun m => by first | rfl | (simp [entryFrame, mkF, argsToLocals, Value.category]; done)) ?_
  show GM_puts l Z n0 (fun v h => v = none ∧ Keep h0 h [sb] ∧ ∃ (vb : Addr) (kb : ClassId), n0 ≤ vb ∧ h0.size ≤ vb ∧ Exa Z h sb "java/lang/StringBuilder" ∧ Fld Z h sb "java/lang/AbstractStringBuilder" "value" "[B" (.ref vb) ∧ Fld Z h sb "java/lang/AbstractStringBuilder" "coder" "B" (.int (1 : Int32)) ∧ Fld Z h sb "java/lang/AbstractStringBuilder" "count" "I" (.int (Int32.ofNat cs.length)) ∧ Arv Z h vb kb .byte (Int32.ofNat (2 * 16)) ((enc2 (cs ++ ds)).map Value.int) (.int (0 : Int32)) ∧ Fld Z h sb "java/lang/AbstractStringBuilder" "maybeLatin1" "Z" (.int (0 : Int32))) h0 0 0 0 #[.val (.ref sb), .val (.int (Int32.ofNat cs.length)), .val (.ref x)] []
  have KK : Keep h0 h0 [sb] := Keep.refl _ _
  refine Go.aloadN d_puts_0 rfl rfl ?_
  refine Go.aloadN d_puts_1 rfl rfl ?_
  -- at pc 2: pc 2: invokevirtual .invokevirtual 397 stack [(.ref x), (.ref sb)]
  have lt_t := B.lt2
  have lt_sb := E_sb.lt
  refine Go.callP (I' := IN) (hI := nQ) sb [(.ref x)] [] (ct_inflLU l Z a0 hw n0 sb va x t kv kt cs ds _ hz O z S_cs hcs S_ad S_hi S_lo vf hvf S_f hL g_sb nsv S B (by omega)) E_sb (wd_134 hw) (wd_135 hw) (sel_priv2 (y := (⟨"java/lang/AbstractStringBuilder", "inflateIfNeededFor", "(Ljava/lang/String;)V"⟩ : MethodName)) (show Ord Z "java/lang/AbstractStringBuilder" from Ord.sel (wd_127 hw)) (wd_135 hw) (wd_136 hw) (by decide)) (wd_136 hw) (wd_94 hw) (wd_138 hw) (by decide) pd_2 rfl rfl rfl (Nat.le_of_ble_eq_true rfl) (Nat.le_of_ble_eq_true rfl) (Nat.le_of_ble_eq_true rfl) (Nat.le_of_ble_eq_true rfl) d_puts_2 ?_
  rintro _ hp78 ⟨rfl, K78, vb, kb, g_vb, s_vb, E1, F1, F2, F3, V1, F4⟩
  replace O := O.keep K78 (allS g_sb (all0))
  replace E_x := E_x.keep K78
  replace E_sb := E_sb.keep K78
  replace B := B.keep K78 (ninS nxs nin0) (ninS nts nin0)
  replace hz : n0 ≤ hp78.size := Nat.le_trans hz K78.1
  replace KK : Keep h0 hp78 [sb] := KK.trans K78 (allS (Or.inl (by simp)) (all0))
  show GM_puts l Z n0 (fun v h => v = none ∧ Keep h0 h [sb] ∧ ∃ (vb : Addr) (kb : ClassId), n0 ≤ vb ∧ h0.size ≤ vb ∧ Exa Z h sb "java/lang/StringBuilder" ∧ Fld Z h sb "java/lang/AbstractStringBuilder" "value" "[B" (.ref vb) ∧ Fld Z h sb "java/lang/AbstractStringBuilder" "coder" "B" (.int (1 : Int32)) ∧ Fld Z h sb "java/lang/AbstractStringBuilder" "count" "I" (.int (Int32.ofNat cs.length)) ∧ Arv Z h vb kb .byte (Int32.ofNat (2 * 16)) ((enc2 (cs ++ ds)).map Value.int) (.int (0 : Int32)) ∧ Fld Z h sb "java/lang/AbstractStringBuilder" "maybeLatin1" "Z" (.int (0 : Int32))) hp78 1 32 5 #[.val (.ref sb), .val (.int (Int32.ofNat cs.length)), .val (.ref x)] []
  have ne_t_vb : t ≠ vb := (Nat.ne_of_lt (Nat.lt_of_lt_of_le lt_t s_vb))
  have ne_sb_vb : sb ≠ vb := (Nat.ne_of_lt (Nat.lt_of_lt_of_le lt_sb s_vb))
  refine Go.aloadN d_puts_5 rfl rfl ?_
  refine Go.aloadN d_puts_6 rfl rfl ?_
  refine Go.getF (wd_98 hw) Via.refl F1 d_puts_7 ?_
  refine Go.iloadN d_puts_10 rfl ?_
  refine Go.aloadN d_puts_11 rfl rfl ?_
  refine Go.getF (wd_100 hw) Via.refl F2 d_puts_12 ?_
  -- at pc 15: pc 15: invokevirtual .invokevirtual 399 stack [(.int (1 : Int32)), (.int (Int32.ofNat cs.length)), (.ref vb), (.ref x)]
  refine Go.callV (I' := IN) (hI := nQ) x [(.ref vb), (.int (Int32.ofNat cs.length)), (.int (1 : Int32))] [] (ct_getbU l Z a0 hw n0 vb x t kb kt cs ds _ hz O z S_cs hcs S_ad S_hi S_lo vf hvf S_f g_vb ne_t_vb hC V1 (Or.inr ⟨hD, B⟩) hl) E_x (wd_140 hw) (wd_141 hw) (nf_sel (wd_143 hw)) (wd_143 hw) (wd_142 hw) (wd_3 hw) (wd_144 hw) (by decide) pd_3 rfl rfl rfl (Nat.le_of_ble_eq_true rfl) (Nat.le_of_ble_eq_true rfl) (Nat.le_of_ble_eq_true rfl) (Nat.le_of_ble_eq_true rfl) d_puts_15 ?_
  rintro _ hp79 ⟨rfl, K79, V2⟩
  replace O := O.keep K79 (allS g_vb (all0))
  replace E_x := E_x.keep K79
  replace E_sb := E_sb.keep K79
  replace F1 := F1.keep K79 (ninS ne_sb_vb nin0)
  replace F2 := F2.keep K79 (ninS ne_sb_vb nin0)
  replace F3 := F3.keep K79 (ninS ne_sb_vb nin0)
  replace F4 := F4.keep K79 (ninS ne_sb_vb nin0)
  replace hz : n0 ≤ hp79.size := Nat.le_trans hz K79.1
  replace KK : Keep h0 hp79 [sb] := KK.trans K79 (allS (Or.inr s_vb) (all0))
  show GM_puts l Z n0 (fun v h => v = none ∧ Keep h0 h [sb] ∧ ∃ (vb : Addr) (kb : ClassId), n0 ≤ vb ∧ h0.size ≤ vb ∧ Exa Z h sb "java/lang/StringBuilder" ∧ Fld Z h sb "java/lang/AbstractStringBuilder" "value" "[B" (.ref vb) ∧ Fld Z h sb "java/lang/AbstractStringBuilder" "coder" "B" (.int (1 : Int32)) ∧ Fld Z h sb "java/lang/AbstractStringBuilder" "count" "I" (.int (Int32.ofNat cs.length)) ∧ Arv Z h vb kb .byte (Int32.ofNat (2 * 16)) ((enc2 (cs ++ ds)).map Value.int) (.int (0 : Int32)) ∧ Fld Z h sb "java/lang/AbstractStringBuilder" "maybeLatin1" "Z" (.int (0 : Int32))) hp79 1 32 18 #[.val (.ref sb), .val (.int (Int32.ofNat cs.length)), .val (.ref x)] []
  -- at pc 18: pc 18: return .return_ stack []
  exact Go.return_ d_puts_18 rfl (by decide) (by decide) ⟨rfl, KK, vb, kb, g_vb, s_vb, E_sb, F1, F2, F3, V2, F4⟩
theorem ct_apALU (l : Launch) (Z : State) (a0 : Array Value) (hw : ∀ d ∈ tables_1, d.before a0 Z = true) (n0 : Nat) (sb va x t : Addr) (kv kt : ClassId) (cs ds : List Int32) (h0 : Heap) (hz : n0 ≤ h0.size) (O : Old Z n0 h0) (z : Int32) (S_cs : Sta Z Z.heap "java/lang/String" "COMPACT_STRINGS" "Z" (.int z)) (hcs : ¬ z = 0) (S_ad : Sta Z Z.heap "java/lang/StringUTF16" "$assertionsDisabled" "Z" (.int (1 : Int32))) (S_hi : Sta Z Z.heap "java/lang/StringUTF16" "HI_BYTE_SHIFT" "I" (.int (0 : Int32))) (S_lo : Sta Z Z.heap "java/lang/StringUTF16" "LO_BYTE_SHIFT" "I" (.int (8 : Int32))) (vf : Value) (hvf : vf.isRef = true) (S_f : Sta Z Z.heap "jdk/internal/util/Preconditions" "SIOOBE_FORMATTER" "Ljava/util/function/BiFunction;" vf) (hL : ∀ c ∈ cs, 0 ≤ c.toInt ∧ c.toInt < 256) (g_sb : n0 ≤ sb) (nsv : sb ≠ va) (S : Sbd Z h0 sb va kv (cs.map own_b)) (B : Byu Z h0 x t kt ds) (nxs : x ≠ sb) (nts : t ≠ sb) (hC : Chr ds) (hD : ¬ Lat ds) (hl : cs.length + ds.length ≤ 16) :
    Ct l Z n0 "java/lang/AbstractStringBuilder" "append" "(Ljava/lang/String;)Ljava/lang/AbstractStringBuilder;" [] jdk_68_method_22_code 3 (some (.object "java/lang/AbstractStringBuilder")) R_apA #[.ref sb, .ref x] h0 (fun v h => v = some (.ref sb) ∧ Keep h0 h [sb] ∧ ∃ (vb : Addr) (kb : ClassId), n0 ≤ vb ∧ h0.size ≤ vb ∧ Sbu Z h sb vb kb (cs ++ ds)) := by
  have E_x := B.1
  have S0 := S
  obtain ⟨E_sb, F_sb_value, F_sb_coder, F_sb_count, V_va, F_sb_maybeLatin1⟩ := S
  rw [List.length_map] at F_sb_count
  refine Ct.of_go pf_apA (Ls := #[.val (.ref sb), .val (.ref x), .unset]) (fun m => by first | rfl | (simp [entryFrame, mkF, argsToLocals, Value.category]; done)) ?_
  show GM_apA l Z n0 (fun v h => v = some (.ref sb) ∧ Keep h0 h [sb] ∧ ∃ (vb : Addr) (kb : ClassId), n0 ≤ vb ∧ h0.size ≤ vb ∧ Sbu Z h sb vb kb (cs ++ ds)) h0 0 0 0 #[.val (.ref sb), .val (.ref x), .unset] []
  have KK : Keep h0 h0 [sb] := Keep.refl _ _
  refine Go.aloadN d_apA_0 rfl rfl ?_
  refine Go.nnT 9 d_apA_1 (by decide) (by decide) ?_
  refine Go.aloadN d_apA_9 rfl rfl ?_
  -- at pc 10: pc 10: invokevirtual .invokevirtual 32 stack [(.ref x)]
  refine Go.callV (I' := IN) (hI := nQ) x [] [] (ct_slenC l Z a0 hw n0 x t kt ds _ O z S_cs hcs (by omega) (Or.inr ⟨hD, B⟩)) E_x (wd_112 hw) (wd_113 hw) (nf_sel (wd_115 hw)) (wd_115 hw) (wd_114 hw) (wd_3 hw) (wd_116 hw) (by decide) pd_4 rfl rfl rfl (Nat.le_of_ble_eq_true rfl) (Nat.le_of_ble_eq_true rfl) (Nat.le_of_ble_eq_true rfl) (Nat.le_of_ble_eq_true rfl) d_apA_10 ?_
  rintro _ _ ⟨rfl, rfl⟩
  show GM_apA l Z n0 (fun v h => v = some (.ref sb) ∧ Keep h0 h [sb] ∧ ∃ (vb : Addr) (kb : ClassId), n0 ≤ vb ∧ h0.size ≤ vb ∧ Sbu Z h sb vb kb (cs ++ ds)) h0 0 0 13 #[.val (.ref sb), .val (.ref x), .unset] [(.int (Int32.ofNat ds.length))]
  refine Go.istoreN (Ls' := #[.val (.ref sb), .val (.ref x), .val (.int (Int32.ofNat ds.length))]) d_apA_13 rfl ?_
  refine Go.aloadN d_apA_14 rfl rfl ?_
  refine Go.aloadN d_apA_15 rfl rfl ?_
  refine Go.getF (wd_122 hw) Via.refl F_sb_count d_apA_16 ?_
  refine Go.iloadN d_apA_19 rfl ?_
  refine Go.iadd d_apA_20 ?_
  -- at pc 21: pc 21: invokevirtual .invokevirtual 100 stack [(.int ((Int32.ofNat cs.length) + (Int32.ofNat ds.length))), (.ref sb)]
  refine Go.callP (I' := IN) (hI := nQ) sb [(.int ((Int32.ofNat cs.length) + (Int32.ofNat ds.length)))] [] (ct_ecap l Z a0 hw n0 sb va kv (cs.map own_b) ((Int32.ofNat cs.length) + (Int32.ofNat ds.length)) _ S0 (by rw [own_cnt]; exact own_cap _ (by rw [List.length_append]; exact hl))) E_sb (wd_124 hw) (wd_125 hw) (sel_priv2 (y := (⟨"java/lang/AbstractStringBuilder", "ensureCapacityInternal", "(I)V"⟩ : MethodName)) (show Ord Z "java/lang/AbstractStringBuilder" from Ord.sel (wd_127 hw)) (wd_125 hw) (wd_126 hw) (by decide)) (wd_126 hw) (wd_94 hw) (wd_128 hw) (by decide) pd_1 rfl rfl rfl (Nat.le_of_ble_eq_true rfl) (Nat.le_of_ble_eq_true rfl) (Nat.le_of_ble_eq_true rfl) (Nat.le_of_ble_eq_true rfl) d_apA_21 ?_
  rintro _ _ ⟨rfl, rfl⟩
  show GM_apA l Z n0 (fun v h => v = some (.ref sb) ∧ Keep h0 h [sb] ∧ ∃ (vb : Addr) (kb : ClassId), n0 ≤ vb ∧ h0.size ≤ vb ∧ Sbu Z h sb vb kb (cs ++ ds)) h0 0 0 24 #[.val (.ref sb), .val (.ref x), .val (.int (Int32.ofNat ds.length))] []
  refine Go.aloadN d_apA_24 rfl rfl ?_
  refine Go.aloadN d_apA_25 rfl rfl ?_
  refine Go.getF (wd_122 hw) Via.refl F_sb_count d_apA_26 ?_
  refine Go.aloadN d_apA_29 rfl rfl ?_
  -- at pc 30: pc 30: invokevirtual .invokevirtual 208 stack [(.ref x), (.int (Int32.ofNat cs.length)), (.ref sb)]
  have lt_sb := E_sb.lt
  refine Go.callP (I' := IN) (hI := nQ) sb [(.int (Int32.ofNat cs.length)), (.ref x)] [] (ct_putsLU l Z a0 hw n0 sb va x t kv kt cs ds _ hz O z S_cs hcs S_ad S_hi S_lo vf hvf S_f hL g_sb nsv S0 B nxs nts hC hD hl) E_sb (wd_129 hw) (wd_130 hw) (sel_priv2 (y := (⟨"java/lang/AbstractStringBuilder", "putStringAt", "(ILjava/lang/String;)V"⟩ : MethodName)) (show Ord Z "java/lang/AbstractStringBuilder" from Ord.sel (wd_127 hw)) (wd_130 hw) (wd_131 hw) (by decide)) (wd_131 hw) (wd_94 hw) (wd_133 hw) (by decide) pd_5 rfl rfl rfl (Nat.le_of_ble_eq_true rfl) (Nat.le_of_ble_eq_true rfl) (Nat.le_of_ble_eq_true rfl) (Nat.le_of_ble_eq_true rfl) d_apA_30 ?_
  rintro _ hp82 ⟨rfl, K82, vb, kb, g_vb, s_vb, E1, F1, F2, F3, V1, F4⟩
  replace O := O.keep K82 (allS g_sb (all0))
  replace E_x := E_x.keep K82
  replace E_sb := E_sb.keep K82
  replace hz : n0 ≤ hp82.size := Nat.le_trans hz K82.1
  replace KK : Keep h0 hp82 [sb] := KK.trans K82 (allS (Or.inl (by simp)) (all0))
  show GM_apA l Z n0 (fun v h => v = some (.ref sb) ∧ Keep h0 h [sb] ∧ ∃ (vb : Addr) (kb : ClassId), n0 ≤ vb ∧ h0.size ≤ vb ∧ Sbu Z h sb vb kb (cs ++ ds)) hp82 1 32 33 #[.val (.ref sb), .val (.ref x), .val (.int (Int32.ofNat ds.length))] []
  have ne_sb_vb : sb ≠ vb := (Nat.ne_of_lt (Nat.lt_of_lt_of_le lt_sb s_vb))
  refine Go.aloadN d_apA_33 rfl rfl ?_
  refine Go.dup d_apA_34 rfl ?_
  refine Go.getF (wd_122 hw) Via.refl F3 d_apA_35 ?_
  refine Go.iloadN d_apA_38 rfl ?_
  refine Go.iadd d_apA_39 ?_
  refine Go.putF (I' := IN) (hI := nI) (wd_122 hw) Via.refl F3 E_sb (Or.inl (wd_123 hw)) (wd_85 hw) (ty := .int) (by decide) rfl rfl g_sb d_apA_40 fun hp83 W83 => ?_
  have K83 := Keep.of_wr W83
  replace F1 := F1.other W83 (Or.inr (slot_ne (Or.inl (wd_99 hw)) (Or.inl (wd_123 hw)) (by decide) (t := (.array .byte)) (t' := .int) (by decide) (by decide)))
  replace F2 := F2.other W83 (Or.inr (slot_ne (Or.inl (wd_101 hw)) (Or.inl (wd_123 hw)) (by decide) (t := .byte) (t' := .int) (by decide) (by decide)))
  replace F3 := F3.same W83
  replace F4 := F4.other W83 (Or.inr (slot_ne (Or.inl (wd_271 hw)) (Or.inl (wd_123 hw)) (by decide) (t := .boolean) (t' := .int) (by decide) (by decide)))
  replace O := O.keep K83 (allS g_sb (all0))
  replace E_x := E_x.keep K83
  replace E_sb := E_sb.keep K83
  replace V1 := V1.keep K83 (ninS (Ne.symm ne_sb_vb) nin0)
  replace hz : n0 ≤ hp83.size := Nat.le_trans hz K83.1
  replace KK : Keep h0 hp83 [sb] := KK.trans K83 (allS (Or.inl (by simp)) (all0))
  refine Go.aloadN d_apA_43 rfl rfl ?_
  -- at pc 44: pc 44: areturn .areturn stack [(.ref sb)]
  exact Go.areturn d_apA_44 rfl rfl rfl (by decide) (by decide) ⟨rfl, KK, vb, kb, g_vb, s_vb, E_sb, F1, F2, by rw [← own_cnt]; exact F3, V1, F4⟩
theorem ct_apLU (l : Launch) (Z : State) (a0 : Array Value) (hw : ∀ d ∈ tables_1, d.before a0 Z = true) (n0 : Nat) (sb va x t : Addr) (kv kt : ClassId) (cs ds : List Int32) (h0 : Heap) (hz : n0 ≤ h0.size) (O : Old Z n0 h0) (z : Int32) (S_cs : Sta Z Z.heap "java/lang/String" "COMPACT_STRINGS" "Z" (.int z)) (hcs : ¬ z = 0) (S_ad : Sta Z Z.heap "java/lang/StringUTF16" "$assertionsDisabled" "Z" (.int (1 : Int32))) (S_hi : Sta Z Z.heap "java/lang/StringUTF16" "HI_BYTE_SHIFT" "I" (.int (0 : Int32))) (S_lo : Sta Z Z.heap "java/lang/StringUTF16" "LO_BYTE_SHIFT" "I" (.int (8 : Int32))) (vf : Value) (hvf : vf.isRef = true) (S_f : Sta Z Z.heap "jdk/internal/util/Preconditions" "SIOOBE_FORMATTER" "Ljava/util/function/BiFunction;" vf) (hL : ∀ c ∈ cs, 0 ≤ c.toInt ∧ c.toInt < 256) (g_sb : n0 ≤ sb) (nsv : sb ≠ va) (S : Sbd Z h0 sb va kv (cs.map own_b)) (B : Byu Z h0 x t kt ds) (nxs : x ≠ sb) (nts : t ≠ sb) (hC : Chr ds) (hD : ¬ Lat ds) (hl : cs.length + ds.length ≤ 16) :
    Ct l Z n0 "java/lang/StringBuilder" "append" "(Ljava/lang/String;)Ljava/lang/StringBuilder;" [] jdk_67_method_7_code 2 (some (.object "java/lang/StringBuilder")) R_ap #[.ref sb, .ref x] h0 (fun v h => v = some (.ref sb) ∧ Keep h0 h [sb] ∧ ∃ (vb : Addr) (kb : ClassId), n0 ≤ vb ∧ h0.size ≤ vb ∧ Sbu Z h sb vb kb (cs ++ ds)) := by
  have E_sb := S.1
  refine Ct.of_go pf_ap (Ls := #[.val (.ref sb), .val (.ref x)]) (fun m => by first | rfl | (simp [entryFrame, mkF, argsToLocals, Value.category]; done)) ?_
  show GM_ap l Z n0 (fun v h => v = some (.ref sb) ∧ Keep h0 h [sb] ∧ ∃ (vb : Addr) (kb : ClassId), n0 ≤ vb ∧ h0.size ≤ vb ∧ Sbu Z h sb vb kb (cs ++ ds)) h0 0 0 0 #[.val (.ref sb), .val (.ref x)] []
  refine Go.aloadN d_ap_0 rfl rfl ?_
  refine Go.aloadN d_ap_1 rfl rfl ?_
  -- at pc 2: pc 2: invokespecial .invokespecial 29 stack [(.ref x), (.ref sb)]
  refine Go.callSup (I' := IN) (hI := nQ) sb [(.ref x)] [] (ct_apALU l Z a0 hw n0 sb va x t kv kt cs ds _ hz O z S_cs hcs S_ad S_hi S_lo vf hvf S_f hL g_sb nsv S B nxs nts hC hD hl) E_sb (show Ord Z "java/lang/AbstractStringBuilder" from Ord.sel (wd_127 hw)) (wd_107 hw) (wd_108 hw) (wd_109 hw) (wd_94 hw) (wd_111 hw) (by decide) (by decide) pd_6 rfl rfl rfl (Nat.le_of_ble_eq_true rfl) (Nat.le_of_ble_eq_true rfl) (Nat.le_of_ble_eq_true rfl) (Nat.le_of_ble_eq_true rfl) d_ap_2 ?_
  rintro _ hp84 ⟨rfl, K1, vb, kb, q1, q2, q3⟩
  show GM_ap l Z n0 (fun v h => v = some (.ref sb) ∧ Keep h0 h [sb] ∧ ∃ (vb : Addr) (kb : ClassId), n0 ≤ vb ∧ h0.size ≤ vb ∧ Sbu Z h sb vb kb (cs ++ ds)) hp84 1 32 5 #[.val (.ref sb), .val (.ref x)] [(.ref sb)]
  refine Go.pop d_ap_5 rfl ?_
  refine Go.aloadN d_ap_6 rfl rfl ?_
  -- at pc 7: pc 7: areturn .areturn stack [(.ref sb)]
  exact Go.areturn d_ap_7 rfl rfl rfl (by decide) (by decide) ⟨rfl, K1, vb, kb, q1, q2, q3⟩
/-- a StringBuilder of 16 chars -/
def Cbd (Z : State) (h : Heap) (sb va : Addr) (kv : ClassId) (cs : List Int32) : Prop := (Lat cs ∧ Sbd Z h sb va kv (cs.map own_b)) ∨ (¬ Lat cs ∧ Sbu Z h sb va kv cs)
theorem Sbu.keep {Z : State} {h h' : Heap} {x t : Addr} {kb : ClassId} {cs : List Int32} {ws : List Addr} (F : Sbu Z h x t kb cs) (K : Keep h h' ws) (q : x ∉ ws) (r : t ∉ ws) : Sbu Z h' x t kb cs := ⟨F.1.keep K, F.2.1.keep K q, F.2.2.1.keep K q, F.2.2.2.1.keep K q, F.2.2.2.2.1.keep K r, F.2.2.2.2.2.keep K q⟩
theorem Sbu.lt2 {Z : State} {h : Heap} {x t : Addr} {kb : ClassId} {cs : List Int32} (F : Sbu Z h x t kb cs) : t < h.size := F.2.2.2.2.1.lt
theorem Cbd.keep {Z : State} {h h' : Heap} {x t : Addr} {kb : ClassId} {cs : List Int32} {ws : List Addr} (F : Cbd Z h x t kb cs) (K : Keep h h' ws) (q : x ∉ ws) (r : t ∉ ws) : Cbd Z h' x t kb cs := F.imp (fun ⟨a, B⟩ => ⟨a, B.keep K q r⟩) (fun ⟨a, B⟩ => ⟨a, B.keep K q r⟩)
theorem Cbd.exa {Z : State} {h : Heap} {x t : Addr} {kb : ClassId} {cs : List Int32} (F : Cbd Z h x t kb cs) : Exa Z h x "java/lang/StringBuilder" := F.elim (fun F => F.2.1) (fun F => F.2.1)
theorem Cbd.lt {Z : State} {h : Heap} {x t : Addr} {kb : ClassId} {cs : List Int32} (F : Cbd Z h x t kb cs) : x < h.size := F.exa.lt
theorem Cbd.lt2 {Z : State} {h : Heap} {x t : Addr} {kb : ClassId} {cs : List Int32} (F : Cbd Z h x t kb cs) : t < h.size := F.elim (fun F => F.2.lt2) (fun F => F.2.lt2)
/-- append of a String of chars below 256: the array stays -/
theorem ct_apL (l : Launch) (Z : State) (a0 : Array Value) (hw : ∀ d ∈ tables_1, d.before a0 Z = true) (n0 : Nat) (sb va x t : Addr) (kv kt : ClassId) (cs ds : List Int32) (h0 : Heap) (hz : n0 ≤ h0.size) (O : Old Z n0 h0) (z : Int32) (S_cs : Sta Z Z.heap "java/lang/String" "COMPACT_STRINGS" "Z" (.int z)) (hcs : ¬ z = 0) (S_ad : Sta Z Z.heap "java/lang/StringUTF16" "$assertionsDisabled" "Z" (.int (1 : Int32))) (S_hi : Sta Z Z.heap "java/lang/StringUTF16" "HI_BYTE_SHIFT" "I" (.int (0 : Int32))) (S_lo : Sta Z Z.heap "java/lang/StringUTF16" "LO_BYTE_SHIFT" "I" (.int (8 : Int32))) (vf : Value) (hvf : vf.isRef = true) (S_f : Sta Z Z.heap "jdk/internal/util/Preconditions" "SIOOBE_FORMATTER" "Ljava/util/function/BiFunction;" vf) (g_sb : n0 ≤ sb) (g_va : n0 ≤ va) (nsv : sb ≠ va) (ntv : t ≠ va) (hC : Chr ds) (hD : Lat ds) (S : Cbd Z h0 sb va kv cs) (B : Byt Z h0 x t kt (ds.map own_b)) (hl : cs.length + ds.length ≤ 16) :
    Ct l Z n0 "java/lang/StringBuilder" "append" "(Ljava/lang/String;)Ljava/lang/StringBuilder;" [] jdk_67_method_7_code 2 (some (.object "java/lang/StringBuilder")) R_ap #[.ref sb, .ref x] h0 (fun v h => v = some (.ref sb) ∧ Keep h0 h [sb, va] ∧ Cbd Z h sb va kv (cs ++ ds)) := by
  rcases S with ⟨hA, S⟩ | ⟨hA, S⟩
  · exact (ct_ap l Z a0 hw n0 sb va x t kv kt (cs.map own_b) (ds.map own_b) h0 O z S_cs hcs g_sb g_va nsv S B (by rw [List.length_map, List.length_map]; exact hl)).mono fun v h ⟨q1, q2, q3⟩ => ⟨q1, q2, Or.inl ⟨hA.app hD, by rw [List.map_append]; exact q3⟩⟩
  · exact (ct_apU l Z a0 hw n0 sb va x t kv kt cs ds h0 hz O z S_cs hcs S_ad S_hi S_lo vf hvf S_f g_sb nsv g_va ntv hC S (Or.inl ⟨hD, B⟩) hl).mono fun v h ⟨q1, q2, q3⟩ => ⟨q1, q2, Or.inr ⟨fun q => hA q.left, q3⟩⟩
/-- append of a String -/
theorem ct_apC (l : Launch) (Z : State) (a0 : Array Value) (hw : ∀ d ∈ tables_1, d.before a0 Z = true) (n0 : Nat) (sb va x t : Addr) (kv kt : ClassId) (cs ds : List Int32) (h0 : Heap) (hz : n0 ≤ h0.size) (O : Old Z n0 h0) (z : Int32) (S_cs : Sta Z Z.heap "java/lang/String" "COMPACT_STRINGS" "Z" (.int z)) (hcs : ¬ z = 0) (S_ad : Sta Z Z.heap "java/lang/StringUTF16" "$assertionsDisabled" "Z" (.int (1 : Int32))) (S_hi : Sta Z Z.heap "java/lang/StringUTF16" "HI_BYTE_SHIFT" "I" (.int (0 : Int32))) (S_lo : Sta Z Z.heap "java/lang/StringUTF16" "LO_BYTE_SHIFT" "I" (.int (8 : Int32))) (vf : Value) (hvf : vf.isRef = true) (S_f : Sta Z Z.heap "jdk/internal/util/Preconditions" "SIOOBE_FORMATTER" "Ljava/util/function/BiFunction;" vf) (g_sb : n0 ≤ sb) (g_va : n0 ≤ va) (nsv : sb ≠ va) (ntv : t ≠ va) (nxs : x ≠ sb) (nts : t ≠ sb) (hA : Chr cs) (hC : Chr ds) (S : Cbd Z h0 sb va kv cs) (B : Cst Z h0 x t kt ds) (hl : cs.length + ds.length ≤ 16) :
    Ct l Z n0 "java/lang/StringBuilder" "append" "(Ljava/lang/String;)Ljava/lang/StringBuilder;" [] jdk_67_method_7_code 2 (some (.object "java/lang/StringBuilder")) R_ap #[.ref sb, .ref x] h0 (fun v h => v = some (.ref sb) ∧ Keep h0 h [sb, va] ∧ ∃ (vb : Addr) (kb : ClassId), n0 ≤ vb ∧ (vb = va ∨ h0.size ≤ vb) ∧ sb ≠ vb ∧ Cbd Z h sb vb kb (cs ++ ds)) := by
  rcases B with ⟨hD, B⟩ | ⟨hD, B⟩
  · exact (ct_apL l Z a0 hw n0 sb va x t kv kt cs ds h0 hz O z S_cs hcs S_ad S_hi S_lo vf hvf S_f g_sb g_va nsv ntv hC hD S B hl).mono fun v h ⟨q1, q2, q3⟩ => ⟨q1, q2, va, kv, g_va, Or.inl rfl, nsv, q3⟩
  · have lt_sb := S.lt
    rcases S with ⟨hE, S⟩ | ⟨hE, S⟩
    · exact (ct_apLU l Z a0 hw n0 sb va x t kv kt cs ds h0 hz O z S_cs hcs S_ad S_hi S_lo vf hvf S_f (hE.both hA) g_sb nsv S B nxs nts hC hD hl).mono fun v h ⟨q1, q2, vb, kb, q3, q4, q5⟩ => ⟨q1, (Keep.refl h0 [sb, va]).trans q2 (allS (Or.inl (by simp)) all0), vb, kb, q3, Or.inr q4, Nat.ne_of_lt (Nat.lt_of_lt_of_le lt_sb q4), Or.inr ⟨fun q => hD q.right, q5⟩⟩
    · exact (ct_apU l Z a0 hw n0 sb va x t kv kt cs ds h0 hz O z S_cs hcs S_ad S_hi S_lo vf hvf S_f g_sb nsv g_va ntv hC S (Or.inr ⟨hD, B⟩) hl).mono fun v h ⟨q1, q2, q3⟩ => ⟨q1, q2, va, kv, g_va, Or.inl rfl, nsv, Or.inr ⟨fun q => hE q.left, q3⟩⟩
-- PART utf5
theorem own_dec (n : Nat) : Int32.ofNat (n + 1) + (-1 : Int32) = Int32.ofNat n := by
  rw [← own_of1, Int32.add_assoc]
  show Int32.ofNat n + 0 = _
  exact Int32.add_zero _
theorem own_n0 : (-(0 : Int32)) = 0 := by decide
theorem d_ssz_0 : decode jdk_33_method_13_code 0 = .ok (.iconst 1, 1) := by decide +kernel
theorem d_ssz_1 : decode jdk_33_method_13_code 1 = .ok (.istore_n 1, 1) := by decide +kernel
theorem d_ssz_2 : decode jdk_33_method_13_code 2 = .ok (.iload_n 0, 1) := by decide +kernel
theorem d_ssz_3 : decode jdk_33_method_13_code 3 = .ok (.ifCond .lt 8, 3) := by decide +kernel
theorem d_ssz_6 : decode jdk_33_method_13_code 6 = .ok (.iconst 0, 1) := by decide +kernel
theorem d_ssz_7 : decode jdk_33_method_13_code 7 = .ok (.istore_n 1, 1) := by decide +kernel
theorem d_ssz_8 : decode jdk_33_method_13_code 8 = .ok (.iload_n 0, 1) := by decide +kernel
theorem d_ssz_9 : decode jdk_33_method_13_code 9 = .ok (.ineg, 1) := by decide +kernel
theorem d_ssz_10 : decode jdk_33_method_13_code 10 = .ok (.istore_n 0, 1) := by decide +kernel
theorem d_ssz_11 : decode jdk_33_method_13_code 11 = .ok (.bipush (-10), 2) := by decide +kernel
theorem d_ssz_13 : decode jdk_33_method_13_code 13 = .ok (.istore_n 2, 1) := by decide +kernel
theorem d_ssz_14 : decode jdk_33_method_13_code 14 = .ok (.iconst 1, 1) := by decide +kernel
theorem d_ssz_15 : decode jdk_33_method_13_code 15 = .ok (.istore_n 3, 1) := by decide +kernel
theorem d_ssz_16 : decode jdk_33_method_13_code 16 = .ok (.iload_n 3, 1) := by decide +kernel
theorem d_ssz_17 : decode jdk_33_method_13_code 17 = .ok (.bipush 10, 2) := by decide +kernel
theorem d_ssz_19 : decode jdk_33_method_13_code 19 = .ok (.if_icmp .ge 23, 3) := by decide +kernel
theorem d_ssz_22 : decode jdk_33_method_13_code 22 = .ok (.iload_n 0, 1) := by decide +kernel
theorem d_ssz_23 : decode jdk_33_method_13_code 23 = .ok (.iload_n 2, 1) := by decide +kernel
theorem d_ssz_24 : decode jdk_33_method_13_code 24 = .ok (.if_icmp .le 7, 3) := by decide +kernel
theorem d_ssz_27 : decode jdk_33_method_13_code 27 = .ok (.iload_n 3, 1) := by decide +kernel
theorem d_ssz_28 : decode jdk_33_method_13_code 28 = .ok (.iload_n 1, 1) := by decide +kernel
theorem d_ssz_29 : decode jdk_33_method_13_code 29 = .ok (.iadd, 1) := by decide +kernel
theorem d_ssz_30 : decode jdk_33_method_13_code 30 = .ok (.ireturn, 1) := by decide +kernel
abbrev R_ssz : Room := ({ frames := 0, cells := 0, slots := 0, locals := 0 } : Room)
abbrev GM_ssz (l : Launch) (Z : State) (n0 : Nat) (Q : Option Value → Heap → Prop) (h : Heap) (cells slots pc : Nat) (Ls : Array Slot) (st : List Value) : Prop := Go l Z n0 R_ssz "java/lang/Integer" "stringSize" jdk_33_method_13_code 4 (some .int) IN (FN n0 R_ssz Q) h cells slots pc Ls st
abbrev GW_ssz (l : Launch) (Z : State) (EL : List (String × Nat)) (s₀ : State) (n0 : Nat) (Q : Option Value → Heap → Prop) (lo : Nat) (Sf : List Addr) (h : Heap) (cells slots pc : Nat) (Ls : Array Slot) (st : List Value) : Prop := Go l Z n0 R_ssz "java/lang/Integer" "stringSize" jdk_33_method_13_code 4 (some .int) (IW Z EL s₀ lo Sf) (FW Z EL s₀ n0 R_ssz Q) h cells slots pc Ls st
theorem pf_ssz : plainFor (⟨"java/lang/Integer", "stringSize", "(I)I"⟩ : MethodName) = true := plainFor_of_name (by first | (simp [plainName, overriddenIn]; done) | decide +kernel)
theorem ct_ssz (l : Launch) (Z : State) (a0 : Array Value) (hw : ∀ d ∈ tables_1, d.before a0 Z = true) (n0 : Nat) (h0 : Heap) : Ct l Z n0 "java/lang/Integer" "stringSize" "(I)I" [] jdk_33_method_13_code 4 (some .int) R_ssz #[.int (0 : Int32)] h0 (fun v h => v = some (.int (1 : Int32)) ∧ h0 = h) := by
  refine Ct.of_go pf_ssz (Ls := #[.val (.int (0 : Int32)), .unset, .unset, .unset]) (fun m => by first | rfl | (simp [entryFrame, mkF, argsToLocals, Value.category]; done)) ?_
  show GM_ssz l Z n0 (fun v h => v = some (.int (1 : Int32)) ∧ h0 = h) h0 0 0 0 #[.val (.int (0 : Int32)), .unset, .unset, .unset] []
  refine Go.iconst 1 d_ssz_0 rfl ?_
  refine Go.istoreN (Ls' := #[.val (.int (0 : Int32)), .val (.int (1 : Int32)), .unset, .unset]) d_ssz_1 rfl ?_
  refine Go.iloadN d_ssz_2 rfl ?_
  -- at pc 3: pc 3: ifCond .ifCond .lt 8 stack [(.int (0 : Int32))]
  -- not: (0 : Int32) < (0 : Int32)
  refine Go.ifF d_ssz_3 (flt (by decide)).1 ?_
  refine Go.iconst 0 d_ssz_6 rfl ?_
  refine Go.istoreN (Ls' := #[.val (.int (0 : Int32)), .val (.int (0 : Int32)), .unset, .unset]) d_ssz_7 rfl ?_
  refine Go.iloadN d_ssz_8 rfl ?_
  refine Go.ineg d_ssz_9 ?_
  rw [show ((-(0 : Int32))) = (0 : Int32) from own_n0]
  refine Go.istoreN (Ls' := #[.val (.int (0 : Int32)), .val (.int (0 : Int32)), .unset, .unset]) d_ssz_10 rfl ?_
  refine Go.bipush (-10) d_ssz_11 rfl ?_
  refine Go.istoreN (Ls' := #[.val (.int (0 : Int32)), .val (.int (0 : Int32)), .val (.int (-10 : Int32)), .unset]) d_ssz_13 rfl ?_
  refine Go.iconst 1 d_ssz_14 rfl ?_
  refine Go.istoreN (Ls' := #[.val (.int (0 : Int32)), .val (.int (0 : Int32)), .val (.int (-10 : Int32)), .val (.int (1 : Int32))]) d_ssz_15 rfl ?_
  refine Go.iloadN d_ssz_16 rfl ?_
  refine Go.bipush 10 d_ssz_17 rfl ?_
  -- at pc 19: pc 19: if_icmp .if_icmp .ge 23 stack [(.int (10 : Int32)), (.int (1 : Int32))]
  -- (1 : Int32) < (10 : Int32)
  refine Go.icF d_ssz_19 (tlt (by decide)).2.1 ?_
  refine Go.iloadN d_ssz_22 rfl ?_
  refine Go.iloadN d_ssz_23 rfl ?_
  -- at pc 24: pc 24: if_icmp .if_icmp .le 7 stack [(.int (-10 : Int32)), (.int (0 : Int32))]
  -- (-10 : Int32) < (0 : Int32)
  refine Go.icF d_ssz_24 (tlt (by decide)).2.2.2 ?_
  refine Go.iloadN d_ssz_27 rfl ?_
  refine Go.iloadN d_ssz_28 rfl ?_
  refine Go.iadd d_ssz_29 ?_
  -- at pc 30: pc 30: ireturn .ireturn stack [(.int ((1 : Int32) + (0 : Int32)))]
  exact Go.ireturn d_ssz_30 rfl (by decide) (by decide) ⟨congrArg (fun q => some (Value.int q)) (by decide : (1 : Int32) + 0 = 1), rfl⟩
theorem d_gch_0 : decode jdk_33_method_12_code 0 = .ok (.iload_n 1, 1) := by decide +kernel
theorem d_gch_1 : decode jdk_33_method_12_code 1 = .ok (.istore 5, 2) := by decide +kernel
theorem d_gch_3 : decode jdk_33_method_12_code 3 = .ok (.iload_n 0, 1) := by decide +kernel
theorem d_gch_4 : decode jdk_33_method_12_code 4 = .ok (.ifCond .ge 7, 3) := by decide +kernel
theorem d_gch_11 : decode jdk_33_method_12_code 11 = .ok (.iconst 0, 1) := by decide +kernel
theorem d_gch_12 : decode jdk_33_method_12_code 12 = .ok (.istore 6, 2) := by decide +kernel
theorem d_gch_14 : decode jdk_33_method_12_code 14 = .ok (.iload 6, 2) := by decide +kernel
theorem d_gch_16 : decode jdk_33_method_12_code 16 = .ok (.ifCond .ne 6, 3) := by decide +kernel
theorem d_gch_19 : decode jdk_33_method_12_code 19 = .ok (.iload_n 0, 1) := by decide +kernel
theorem d_gch_20 : decode jdk_33_method_12_code 20 = .ok (.ineg, 1) := by decide +kernel
theorem d_gch_21 : decode jdk_33_method_12_code 21 = .ok (.istore_n 0, 1) := by decide +kernel
theorem d_gch_22 : decode jdk_33_method_12_code 22 = .ok (.iload_n 0, 1) := by decide +kernel
theorem d_gch_23 : decode jdk_33_method_12_code 23 = .ok (.bipush (-100), 2) := by decide +kernel
theorem d_gch_25 : decode jdk_33_method_12_code 25 = .ok (.if_icmp .gt 47, 3) := by decide +kernel
theorem d_gch_72 : decode jdk_33_method_12_code 72 = .ok (.aload_n 2, 1) := by decide +kernel
theorem d_gch_73 : decode jdk_33_method_12_code 73 = .ok (.iinc 5 (-1), 3) := by decide +kernel
theorem d_gch_76 : decode jdk_33_method_12_code 76 = .ok (.iload 5, 2) := by decide +kernel
theorem d_gch_78 : decode jdk_33_method_12_code 78 = .ok (.getstatic 83, 3) := by decide +kernel
theorem d_gch_81 : decode jdk_33_method_12_code 81 = .ok (.iload_n 0, 1) := by decide +kernel
theorem d_gch_82 : decode jdk_33_method_12_code 82 = .ok (.ineg, 1) := by decide +kernel
theorem d_gch_83 : decode jdk_33_method_12_code 83 = .ok (.baload, 1) := by decide +kernel
theorem d_gch_84 : decode jdk_33_method_12_code 84 = .ok (.bastore, 1) := by decide +kernel
theorem d_gch_85 : decode jdk_33_method_12_code 85 = .ok (.iload_n 0, 1) := by decide +kernel
theorem d_gch_86 : decode jdk_33_method_12_code 86 = .ok (.bipush (-9), 2) := by decide +kernel
theorem d_gch_88 : decode jdk_33_method_12_code 88 = .ok (.if_icmp .ge 16, 3) := by decide +kernel
theorem d_gch_104 : decode jdk_33_method_12_code 104 = .ok (.iload 6, 2) := by decide +kernel
theorem d_gch_106 : decode jdk_33_method_12_code 106 = .ok (.ifCond .eq 12, 3) := by decide +kernel
theorem d_gch_118 : decode jdk_33_method_12_code 118 = .ok (.iload 5, 2) := by decide +kernel
theorem d_gch_120 : decode jdk_33_method_12_code 120 = .ok (.ireturn, 1) := by decide +kernel
abbrev R_gch : Room := ({ frames := 0, cells := 0, slots := 0, locals := 0 } : Room)
abbrev GM_gch (l : Launch) (Z : State) (n0 : Nat) (Q : Option Value → Heap → Prop) (h : Heap) (cells slots pc : Nat) (Ls : Array Slot) (st : List Value) : Prop := Go l Z n0 R_gch "java/lang/Integer" "getChars" jdk_33_method_12_code 7 (some .int) IN (FN n0 R_gch Q) h cells slots pc Ls st
abbrev GW_gch (l : Launch) (Z : State) (EL : List (String × Nat)) (s₀ : State) (n0 : Nat) (Q : Option Value → Heap → Prop) (lo : Nat) (Sf : List Addr) (h : Heap) (cells slots pc : Nat) (Ls : Array Slot) (st : List Value) : Prop := Go l Z n0 R_gch "java/lang/Integer" "getChars" jdk_33_method_12_code 7 (some .int) (IW Z EL s₀ lo Sf) (FW Z EL s₀ n0 R_gch Q) h cells slots pc Ls st
theorem pf_gch : plainFor (⟨"java/lang/Integer", "getChars", "(II[B)I"⟩ : MethodName) = true := plainFor_of_name (by first | (simp [plainName, overriddenIn]; done) | decide +kernel)
set_option maxHeartbeats 1000000 in
theorem ct_gch (l : Launch) (Z : State) (a0 : Array Value) (hw : ∀ d ∈ tables_1, d.before a0 Z = true) (n0 : Nat) (va : Addr) (kv : ClassId) (cs : List Int32) (h0 : Heap) (O : Old Z n0 h0) (dg : Addr) (kd : ClassId) (vd : List Value) (S_dg : Sta Z Z.heap "java/lang/Integer" "DigitOnes" "[B" (.ref dg)) (V_dg : Arv Z Z.heap dg kd .byte (100 : Int32) vd (.int (0 : Int32))) (hd0 : vd.getD 0 (.int (0 : Int32)) = .int (48 : Int32)) (g_va : n0 ≤ va) (hl : cs.length + 1 ≤ 16) (V_va : Arv Z h0 va kv .byte (16 : Int32) (cs.map Value.int) (.int (0 : Int32))) :
    Ct l Z n0 "java/lang/Integer" "getChars" "(II[B)I" [] jdk_33_method_12_code 7 (some .int) R_gch #[.int (0 : Int32), .int (Int32.ofNat (cs.length + 1)), .ref va] h0 (fun v h => (∃ p : Int32, v = some (.int p)) ∧ Keep h0 h [va] ∧ Arv Z h va kv .byte (16 : Int32) ((cs ++ [48]).map Value.int) (.int (0 : Int32))) := by
  refine Ct.of_go pf_gch (Ls := #[.val (.int (0 : Int32)), .val (.int (Int32.ofNat (cs.length + 1))), .val (.ref va), .unset, .unset, .unset, .unset]) (fun m => by first | rfl | (simp [entryFrame, mkF, argsToLocals, Value.category]; done)) ?_
  show GM_gch l Z n0 (fun v h => (∃ p : Int32, v = some (.int p)) ∧ Keep h0 h [va] ∧ Arv Z h va kv .byte (16 : Int32) ((cs ++ [48]).map Value.int) (.int (0 : Int32))) h0 0 0 0 #[.val (.int (0 : Int32)), .val (.int (Int32.ofNat (cs.length + 1))), .val (.ref va), .unset, .unset, .unset, .unset] []
  refine Go.iloadN d_gch_0 rfl ?_
  refine Go.istore (Ls' := #[.val (.int (0 : Int32)), .val (.int (Int32.ofNat (cs.length + 1))), .val (.ref va), .unset, .unset, .val (.int (Int32.ofNat (cs.length + 1))), .unset]) d_gch_1 rfl ?_
  refine Go.iloadN d_gch_3 rfl ?_
  -- at pc 4: pc 4: ifCond .ifCond .ge 7 stack [(.int (0 : Int32))]
  -- not: (0 : Int32) < (0 : Int32)
  refine Go.ifT 11 d_gch_4 (flt (by decide)).2.1 (by decide) (by decide) ?_
  refine Go.iconst 0 d_gch_11 rfl ?_
  refine Go.istore (Ls' := #[.val (.int (0 : Int32)), .val (.int (Int32.ofNat (cs.length + 1))), .val (.ref va), .unset, .unset, .val (.int (Int32.ofNat (cs.length + 1))), .val (.int (0 : Int32))]) d_gch_12 rfl ?_
  refine Go.iload d_gch_14 rfl ?_
  -- at pc 16: pc 16: ifCond .ifCond .ne 6 stack [(.int (0 : Int32))]
  -- (0 : Int32) = (0 : Int32)
  refine Go.ifF d_gch_16 (teq (rfl)).2 ?_
  refine Go.iloadN d_gch_19 rfl ?_
  refine Go.ineg d_gch_20 ?_
  rw [show ((-(0 : Int32))) = (0 : Int32) from own_n0]
  refine Go.istoreN (Ls' := #[.val (.int (0 : Int32)), .val (.int (Int32.ofNat (cs.length + 1))), .val (.ref va), .unset, .unset, .val (.int (Int32.ofNat (cs.length + 1))), .val (.int (0 : Int32))]) d_gch_21 rfl ?_
  refine Go.iloadN d_gch_22 rfl ?_
  refine Go.bipush (-100) d_gch_23 rfl ?_
  -- at pc 25: pc 25: if_icmp .if_icmp .gt 47 stack [(.int (-100 : Int32)), (.int (0 : Int32))]
  -- (-100 : Int32) < (0 : Int32)
  refine Go.icT 72 d_gch_25 (tlt (by decide)).2.2.1 (by decide) (by decide) ?_
  refine Go.aloadN d_gch_72 rfl rfl ?_
  refine Go.iinc (Ls' := #[.val (.int (0 : Int32)), .val (.int (Int32.ofNat (cs.length + 1))), .val (.ref va), .unset, .unset, .val (.int ((Int32.ofNat (cs.length + 1)) + (-1 : Int32))), .val (.int (0 : Int32))]) (-1 : Int32) rfl d_gch_73 rfl rfl ?_
  rw [show ((Int32.ofNat (cs.length + 1)) + (-1 : Int32)) = (Int32.ofNat cs.length) from (own_dec _)]
  refine Go.iload d_gch_76 rfl ?_
  refine Go.getS (wd_173 hw) Via.refl (S_dg.ext O.2) d_gch_78 ?_
  refine Go.iloadN d_gch_81 rfl ?_
  refine Go.ineg d_gch_82 ?_
  rw [show ((-(0 : Int32))) = (0 : Int32) from own_n0]
  refine Go.baload (.int (48 : Int32)) (V_dg.ext O.2) ⟨by decide, by decide⟩ hd0 d_gch_83 ?_
  refine Go.bastore (I' := IN) (hI := nI) (V_va.pad (pad_rep _ _ (16 - cs.length))) (own_idx (m := 16) (by omega) (by decide)) g_va cs.length (by rw [own_clamp (by omega)]) (by simp; omega) d_gch_84 fun h1 K1 V1 => ?_
  rw [show nar .byte (48 : Int32) = 48 from rfl] at V1
  replace V1 := own_setp (m := 16) (cs := cs) (by omega) V1
  show GM_gch l Z n0 (fun v h => (∃ p : Int32, v = some (.int p)) ∧ Keep h0 h [va] ∧ Arv Z h va kv .byte (16 : Int32) ((cs ++ [48]).map Value.int) (.int (0 : Int32))) h1 0 0 85 #[.val (.int (0 : Int32)), .val (.int (Int32.ofNat (cs.length + 1))), .val (.ref va), .unset, .unset, .val (.int (Int32.ofNat cs.length)), .val (.int (0 : Int32))] []
  refine Go.iloadN d_gch_85 rfl ?_
  refine Go.bipush (-9) d_gch_86 rfl ?_
  -- at pc 88: pc 88: if_icmp .if_icmp .ge 16 stack [(.int (-9 : Int32)), (.int (0 : Int32))]
  -- not: (0 : Int32) < (-9 : Int32)
  refine Go.icT 104 d_gch_88 (flt (by decide)).2.1 (by decide) (by decide) ?_
  refine Go.iload d_gch_104 rfl ?_
  -- at pc 106: pc 106: ifCond .ifCond .eq 12 stack [(.int (0 : Int32))]
  -- (0 : Int32) = (0 : Int32)
  refine Go.ifT 118 d_gch_106 (teq (rfl)).1 (by decide) (by decide) ?_
  refine Go.iload d_gch_118 rfl ?_
  -- at pc 120: pc 120: ireturn .ireturn stack [(.int (Int32.ofNat cs.length))]
  exact Go.ireturn d_gch_120 rfl (by decide) (by decide) ⟨⟨_, rfl⟩, K1, V1⟩
theorem d_gchu_0 : decode jdk_52_method_89_code 0 = .ok (.iload_n 1, 1) := by decide +kernel
theorem d_gchu_1 : decode jdk_52_method_89_code 1 = .ok (.istore 5, 2) := by decide +kernel
theorem d_gchu_3 : decode jdk_52_method_89_code 3 = .ok (.iload_n 0, 1) := by decide +kernel
theorem d_gchu_4 : decode jdk_52_method_89_code 4 = .ok (.ifCond .ge 7, 3) := by decide +kernel
theorem d_gchu_11 : decode jdk_52_method_89_code 11 = .ok (.iconst 0, 1) := by decide +kernel
theorem d_gchu_12 : decode jdk_52_method_89_code 12 = .ok (.istore 6, 2) := by decide +kernel
theorem d_gchu_14 : decode jdk_52_method_89_code 14 = .ok (.iload 6, 2) := by decide +kernel
theorem d_gchu_16 : decode jdk_52_method_89_code 16 = .ok (.ifCond .ne 6, 3) := by decide +kernel
theorem d_gchu_19 : decode jdk_52_method_89_code 19 = .ok (.iload_n 0, 1) := by decide +kernel
theorem d_gchu_20 : decode jdk_52_method_89_code 20 = .ok (.ineg, 1) := by decide +kernel
theorem d_gchu_21 : decode jdk_52_method_89_code 21 = .ok (.istore_n 0, 1) := by decide +kernel
theorem d_gchu_22 : decode jdk_52_method_89_code 22 = .ok (.iload_n 0, 1) := by decide +kernel
theorem d_gchu_23 : decode jdk_52_method_89_code 23 = .ok (.bipush (-100), 2) := by decide +kernel
theorem d_gchu_25 : decode jdk_52_method_89_code 25 = .ok (.if_icmp .gt 51, 3) := by decide +kernel
theorem d_gchu_76 : decode jdk_52_method_89_code 76 = .ok (.aload_n 2, 1) := by decide +kernel
theorem d_gchu_77 : decode jdk_52_method_89_code 77 = .ok (.iinc 5 (-1), 3) := by decide +kernel
theorem d_gchu_80 : decode jdk_52_method_89_code 80 = .ok (.iload 5, 2) := by decide +kernel
theorem d_gchu_82 : decode jdk_52_method_89_code 82 = .ok (.getstatic 403, 3) := by decide +kernel
theorem d_gchu_85 : decode jdk_52_method_89_code 85 = .ok (.iload_n 0, 1) := by decide +kernel
theorem d_gchu_86 : decode jdk_52_method_89_code 86 = .ok (.ineg, 1) := by decide +kernel
theorem d_gchu_87 : decode jdk_52_method_89_code 87 = .ok (.baload, 1) := by decide +kernel
theorem d_gchu_88 : decode jdk_52_method_89_code 88 = .ok (.invokestatic 111, 3) := by decide +kernel
theorem d_gchu_91 : decode jdk_52_method_89_code 91 = .ok (.iload_n 0, 1) := by decide +kernel
theorem d_gchu_92 : decode jdk_52_method_89_code 92 = .ok (.bipush (-9), 2) := by decide +kernel
theorem d_gchu_94 : decode jdk_52_method_89_code 94 = .ok (.if_icmp .ge 18, 3) := by decide +kernel
theorem d_gchu_112 : decode jdk_52_method_89_code 112 = .ok (.iload 6, 2) := by decide +kernel
theorem d_gchu_114 : decode jdk_52_method_89_code 114 = .ok (.ifCond .eq 14, 3) := by decide +kernel
theorem d_gchu_128 : decode jdk_52_method_89_code 128 = .ok (.iload 5, 2) := by decide +kernel
theorem d_gchu_130 : decode jdk_52_method_89_code 130 = .ok (.ireturn, 1) := by decide +kernel
abbrev R_gchu : Room := ({ frames := 1, cells := 0, slots := 0, locals := 14 } : Room)
abbrev GM_gchu (l : Launch) (Z : State) (n0 : Nat) (Q : Option Value → Heap → Prop) (h : Heap) (cells slots pc : Nat) (Ls : Array Slot) (st : List Value) : Prop := Go l Z n0 R_gchu "java/lang/StringUTF16" "getChars" jdk_52_method_89_code 7 (some .int) IN (FN n0 R_gchu Q) h cells slots pc Ls st
abbrev GW_gchu (l : Launch) (Z : State) (EL : List (String × Nat)) (s₀ : State) (n0 : Nat) (Q : Option Value → Heap → Prop) (lo : Nat) (Sf : List Addr) (h : Heap) (cells slots pc : Nat) (Ls : Array Slot) (st : List Value) : Prop := Go l Z n0 R_gchu "java/lang/StringUTF16" "getChars" jdk_52_method_89_code 7 (some .int) (IW Z EL s₀ lo Sf) (FW Z EL s₀ n0 R_gchu Q) h cells slots pc Ls st
theorem pf_gchu : plainFor (⟨"java/lang/StringUTF16", "getChars", "(II[B)I"⟩ : MethodName) = true := plainFor_of_name (by first | (simp [plainName, overriddenIn]; done) | decide +kernel)
set_option maxHeartbeats 1000000 in
theorem ct_gchu (l : Launch) (Z : State) (a0 : Array Value) (hw : ∀ d ∈ tables_1, d.before a0 Z = true) (n0 : Nat) (va : Addr) (kv : ClassId) (cs : List Int32) (h0 : Heap) (O : Old Z n0 h0) (S_ad : Sta Z Z.heap "java/lang/StringUTF16" "$assertionsDisabled" "Z" (.int (1 : Int32))) (S_hi : Sta Z Z.heap "java/lang/StringUTF16" "HI_BYTE_SHIFT" "I" (.int (0 : Int32))) (S_lo : Sta Z Z.heap "java/lang/StringUTF16" "LO_BYTE_SHIFT" "I" (.int (8 : Int32))) (dg : Addr) (kd : ClassId) (vd : List Value) (S_dg : Sta Z Z.heap "java/lang/Integer" "DigitOnes" "[B" (.ref dg)) (V_dg : Arv Z Z.heap dg kd .byte (100 : Int32) vd (.int (0 : Int32))) (hd0 : vd.getD 0 (.int (0 : Int32)) = .int (48 : Int32)) (g_va : n0 ≤ va) (hl : cs.length + 1 ≤ 16) (V_va : Arv Z h0 va kv .byte (Int32.ofNat (2 * 16)) ((enc2 cs).map Value.int) (.int (0 : Int32))) :
    Ct l Z n0 "java/lang/StringUTF16" "getChars" "(II[B)I" [] jdk_52_method_89_code 7 (some .int) R_gchu #[.int (0 : Int32), .int (Int32.ofNat (cs.length + 1)), .ref va] h0 (fun v h => (∃ p : Int32, v = some (.int p)) ∧ Keep h0 h [va] ∧ Arv Z h va kv .byte (Int32.ofNat (2 * 16)) ((enc2 (cs ++ [48])).map Value.int) (.int (0 : Int32))) := by
  refine Ct.of_go pf_gchu (Ls := #[.val (.int (0 : Int32)), .val (.int (Int32.ofNat (cs.length + 1))), .val (.ref va), .unset, .unset, .unset, .unset]) (fun m => by first | rfl | (simp [entryFrame, mkF, argsToLocals, Value.category]; done)) ?_
  show GM_gchu l Z n0 (fun v h => (∃ p : Int32, v = some (.int p)) ∧ Keep h0 h [va] ∧ Arv Z h va kv .byte (Int32.ofNat (2 * 16)) ((enc2 (cs ++ [48])).map Value.int) (.int (0 : Int32))) h0 0 0 0 #[.val (.int (0 : Int32)), .val (.int (Int32.ofNat (cs.length + 1))), .val (.ref va), .unset, .unset, .unset, .unset] []
  refine Go.iloadN d_gchu_0 rfl ?_
  refine Go.istore (Ls' := #[.val (.int (0 : Int32)), .val (.int (Int32.ofNat (cs.length + 1))), .val (.ref va), .unset, .unset, .val (.int (Int32.ofNat (cs.length + 1))), .unset]) d_gchu_1 rfl ?_
  refine Go.iloadN d_gchu_3 rfl ?_
  -- at pc 4: pc 4: ifCond .ifCond .ge 7 stack [(.int (0 : Int32))]
  -- not: (0 : Int32) < (0 : Int32)
  refine Go.ifT 11 d_gchu_4 (flt (by decide)).2.1 (by decide) (by decide) ?_
  refine Go.iconst 0 d_gchu_11 rfl ?_
  refine Go.istore (Ls' := #[.val (.int (0 : Int32)), .val (.int (Int32.ofNat (cs.length + 1))), .val (.ref va), .unset, .unset, .val (.int (Int32.ofNat (cs.length + 1))), .val (.int (0 : Int32))]) d_gchu_12 rfl ?_
  refine Go.iload d_gchu_14 rfl ?_
  -- at pc 16: pc 16: ifCond .ifCond .ne 6 stack [(.int (0 : Int32))]
  -- (0 : Int32) = (0 : Int32)
  refine Go.ifF d_gchu_16 (teq (rfl)).2 ?_
  refine Go.iloadN d_gchu_19 rfl ?_
  refine Go.ineg d_gchu_20 ?_
  rw [show ((-(0 : Int32))) = (0 : Int32) from own_n0]
  refine Go.istoreN (Ls' := #[.val (.int (0 : Int32)), .val (.int (Int32.ofNat (cs.length + 1))), .val (.ref va), .unset, .unset, .val (.int (Int32.ofNat (cs.length + 1))), .val (.int (0 : Int32))]) d_gchu_21 rfl ?_
  refine Go.iloadN d_gchu_22 rfl ?_
  refine Go.bipush (-100) d_gchu_23 rfl ?_
  -- at pc 25: pc 25: if_icmp .if_icmp .gt 51 stack [(.int (-100 : Int32)), (.int (0 : Int32))]
  -- (-100 : Int32) < (0 : Int32)
  refine Go.icT 76 d_gchu_25 (tlt (by decide)).2.2.1 (by decide) (by decide) ?_
  refine Go.aloadN d_gchu_76 rfl rfl ?_
  refine Go.iinc (Ls' := #[.val (.int (0 : Int32)), .val (.int (Int32.ofNat (cs.length + 1))), .val (.ref va), .unset, .unset, .val (.int ((Int32.ofNat (cs.length + 1)) + (-1 : Int32))), .val (.int (0 : Int32))]) (-1 : Int32) rfl d_gchu_77 rfl rfl ?_
  rw [show ((Int32.ofNat (cs.length + 1)) + (-1 : Int32)) = (Int32.ofNat cs.length) from (own_dec _)]
  refine Go.iload d_gchu_80 rfl ?_
  refine Go.getS (wd_287 hw) Via.refl (S_dg.ext O.2) d_gchu_82 ?_
  refine Go.iloadN d_gchu_85 rfl ?_
  refine Go.ineg d_gchu_86 ?_
  rw [show ((-(0 : Int32))) = (0 : Int32) from own_n0]
  refine Go.baload (.int (48 : Int32)) (V_dg.ext O.2) ⟨by decide, by decide⟩ hd0 d_gchu_87 ?_
  refine Go.callS (I' := IN) (hI := nQ) [(.ref va), (.int (Int32.ofNat cs.length)), (.int (48 : Int32))] [] (ct_putc l Z a0 hw n0 va kv cs 48 16 (Int32.ofNat cs.length) _ O S_ad S_hi S_lo rfl g_va (by omega) (by decide) V_va) (wd_234 hw) (wd_235 hw) (wd_18 hw) (wd_236 hw) (by decide) pd_16 rfl rfl rfl (Nat.le_of_ble_eq_true rfl) (Nat.le_of_ble_eq_true rfl) (Nat.le_of_ble_eq_true rfl) (Nat.le_of_ble_eq_true rfl) d_gchu_88 ?_
  rintro _ hp85 ⟨rfl, K1, V1⟩
  show GM_gchu l Z n0 (fun v h => (∃ p : Int32, v = some (.int p)) ∧ Keep h0 h [va] ∧ Arv Z h va kv .byte (Int32.ofNat (2 * 16)) ((enc2 (cs ++ [48])).map Value.int) (.int (0 : Int32))) hp85 0 0 91 #[.val (.int (0 : Int32)), .val (.int (Int32.ofNat (cs.length + 1))), .val (.ref va), .unset, .unset, .val (.int (Int32.ofNat cs.length)), .val (.int (0 : Int32))] []
  refine Go.iloadN d_gchu_91 rfl ?_
  refine Go.bipush (-9) d_gchu_92 rfl ?_
  -- at pc 94: pc 94: if_icmp .if_icmp .ge 18 stack [(.int (-9 : Int32)), (.int (0 : Int32))]
  -- not: (0 : Int32) < (-9 : Int32)
  refine Go.icT 112 d_gchu_94 (flt (by decide)).2.1 (by decide) (by decide) ?_
  refine Go.iload d_gchu_112 rfl ?_
  -- at pc 114: pc 114: ifCond .ifCond .eq 14 stack [(.int (0 : Int32))]
  -- (0 : Int32) = (0 : Int32)
  refine Go.ifT 128 d_gchu_114 (teq (rfl)).1 (by decide) (by decide) ?_
  refine Go.iload d_gchu_128 rfl ?_
  -- at pc 130: pc 130: ireturn .ireturn stack [(.int (Int32.ofNat cs.length))]
  exact Go.ireturn d_gchu_130 rfl (by decide) (by decide) ⟨⟨_, rfl⟩, K1, V1⟩
theorem d_cft_0 : decode jdk_41_method_12_code 0 = .ok (.iload_n 0, 1) := by decide +kernel
theorem d_cft_1 : decode jdk_41_method_12_code 1 = .ok (.ifCond .lt 13, 3) := by decide +kernel
theorem d_cft_4 : decode jdk_41_method_12_code 4 = .ok (.iload_n 0, 1) := by decide +kernel
theorem d_cft_5 : decode jdk_41_method_12_code 5 = .ok (.iload_n 1, 1) := by decide +kernel
theorem d_cft_6 : decode jdk_41_method_12_code 6 = .ok (.if_icmp .gt 8, 3) := by decide +kernel
theorem d_cft_9 : decode jdk_41_method_12_code 9 = .ok (.iload_n 1, 1) := by decide +kernel
theorem d_cft_10 : decode jdk_41_method_12_code 10 = .ok (.iload_n 2, 1) := by decide +kernel
theorem d_cft_11 : decode jdk_41_method_12_code 11 = .ok (.if_icmp .le 11, 3) := by decide +kernel
theorem d_cft_22 : decode jdk_41_method_12_code 22 = .ok (.iload_n 0, 1) := by decide +kernel
theorem d_cft_23 : decode jdk_41_method_12_code 23 = .ok (.ireturn, 1) := by decide +kernel
abbrev R_cft : Room := ({ frames := 0, cells := 0, slots := 0, locals := 0 } : Room)
abbrev GM_cft (l : Launch) (Z : State) (n0 : Nat) (Q : Option Value → Heap → Prop) (h : Heap) (cells slots pc : Nat) (Ls : Array Slot) (st : List Value) : Prop := Go l Z n0 R_cft "jdk/internal/util/Preconditions" "checkFromToIndex" jdk_41_method_12_code 4 (some .int) IN (FN n0 R_cft Q) h cells slots pc Ls st
abbrev GW_cft (l : Launch) (Z : State) (EL : List (String × Nat)) (s₀ : State) (n0 : Nat) (Q : Option Value → Heap → Prop) (lo : Nat) (Sf : List Addr) (h : Heap) (cells slots pc : Nat) (Ls : Array Slot) (st : List Value) : Prop := Go l Z n0 R_cft "jdk/internal/util/Preconditions" "checkFromToIndex" jdk_41_method_12_code 4 (some .int) (IW Z EL s₀ lo Sf) (FW Z EL s₀ n0 R_cft Q) h cells slots pc Ls st
theorem pf_cft : plainFor (⟨"jdk/internal/util/Preconditions", "checkFromToIndex", "(IIILjava/util/function/BiFunction;)I"⟩ : MethodName) = true := plainFor_of_name (by first | (simp [plainName, overriddenIn]; done) | decide +kernel)
theorem ct_cft (l : Launch) (Z : State) (a0 : Array Value) (hw : ∀ d ∈ tables_1, d.before a0 Z = true) (n0 : Nat) (a b m : Nat) (vf : Value) (hvf : vf.isRef = true) (h0 : Heap) (hm : m < 2 ^ 29) (hab : a ≤ b) (hbm : b ≤ m) : Ct l Z n0 "jdk/internal/util/Preconditions" "checkFromToIndex" "(IIILjava/util/function/BiFunction;)I" [] jdk_41_method_12_code 4 (some .int) R_cft #[.int (Int32.ofNat a), .int (Int32.ofNat b), .int (Int32.ofNat m), vf] h0 (fun v h => v = some (.int (Int32.ofNat a)) ∧ h0 = h) := by
  refine Ct.of_go pf_cft (Ls := #[.val (.int (Int32.ofNat a)), .val (.int (Int32.ofNat b)), .val (.int (Int32.ofNat m)), .val vf]) (fun m => by rcases ref_cases hvf with rfl | ⟨_, rfl⟩ <;> rfl) ?_
  show GM_cft l Z n0 (fun v h => v = some (.int (Int32.ofNat a)) ∧ h0 = h) h0 0 0 0 #[.val (.int (Int32.ofNat a)), .val (.int (Int32.ofNat b)), .val (.int (Int32.ofNat m)), .val vf] []
  refine Go.iloadN d_cft_0 rfl ?_
  -- at pc 1: pc 1: ifCond .ifCond .lt 13 stack [(.int (Int32.ofNat a))]
  -- not: (Int32.ofNat a) < (0 : Int32)
  refine Go.ifF d_cft_1 (flt ((own_nneg (by omega)))).1 ?_
  refine Go.iloadN d_cft_4 rfl ?_
  refine Go.iloadN d_cft_5 rfl ?_
  -- at pc 6: pc 6: if_icmp .if_icmp .gt 8 stack [(.int (Int32.ofNat b)), (.int (Int32.ofNat a))]
  -- not: (Int32.ofNat b) < (Int32.ofNat a)
  refine Go.icF d_cft_6 (flt ((by rw [Int32.lt_iff_toInt_lt, own_ofInt (by omega), own_ofInt (by omega)]; omega))).2.2.1 ?_
  refine Go.iloadN d_cft_9 rfl ?_
  refine Go.iloadN d_cft_10 rfl ?_
  -- at pc 11: pc 11: if_icmp .if_icmp .le 11 stack [(.int (Int32.ofNat m)), (.int (Int32.ofNat b))]
  -- not: (Int32.ofNat m) < (Int32.ofNat b)
  refine Go.icT 22 d_cft_11 (flt ((by rw [Int32.lt_iff_toInt_lt, own_ofInt (by omega), own_ofInt (by omega)]; omega))).2.2.2 (by decide) (by decide) ?_
  refine Go.iloadN d_cft_22 rfl ?_
  -- at pc 23: pc 23: ireturn .ireturn stack [(.int (Int32.ofNat a))]
  exact Go.ireturn d_cft_23 rfl (by decide) (by decide) ⟨rfl, rfl⟩
theorem d_cbbe_0 : decode jdk_42_method_158_code 0 = .ok (.iload_n 0, 1) := by decide +kernel
theorem d_cbbe_1 : decode jdk_42_method_158_code 1 = .ok (.iload_n 1, 1) := by decide +kernel
theorem d_cbbe_2 : decode jdk_42_method_158_code 2 = .ok (.iload_n 2, 1) := by decide +kernel
theorem d_cbbe_3 : decode jdk_42_method_158_code 3 = .ok (.getstatic 1053, 3) := by decide +kernel
theorem d_cbbe_6 : decode jdk_42_method_158_code 6 = .ok (.invokestatic 1062, 3) := by decide +kernel
theorem d_cbbe_9 : decode jdk_42_method_158_code 9 = .ok (.pop, 1) := by decide +kernel
theorem d_cbbe_10 : decode jdk_42_method_158_code 10 = .ok (.return_, 1) := by decide +kernel
abbrev R_cbbe : Room := ({ frames := 1, cells := 0, slots := 0, locals := 15 } : Room)
abbrev GM_cbbe (l : Launch) (Z : State) (n0 : Nat) (Q : Option Value → Heap → Prop) (h : Heap) (cells slots pc : Nat) (Ls : Array Slot) (st : List Value) : Prop := Go l Z n0 R_cbbe "java/lang/String" "checkBoundsBeginEnd" jdk_42_method_158_code 3 none IN (FN n0 R_cbbe Q) h cells slots pc Ls st
abbrev GW_cbbe (l : Launch) (Z : State) (EL : List (String × Nat)) (s₀ : State) (n0 : Nat) (Q : Option Value → Heap → Prop) (lo : Nat) (Sf : List Addr) (h : Heap) (cells slots pc : Nat) (Ls : Array Slot) (st : List Value) : Prop := Go l Z n0 R_cbbe "java/lang/String" "checkBoundsBeginEnd" jdk_42_method_158_code 3 none (IW Z EL s₀ lo Sf) (FW Z EL s₀ n0 R_cbbe Q) h cells slots pc Ls st
theorem pf_cbbe : plainFor (⟨"java/lang/String", "checkBoundsBeginEnd", "(III)V"⟩ : MethodName) = true := plainFor_of_name (by first | (simp [plainName, overriddenIn]; done) | decide +kernel)
theorem ct_cbbe (l : Launch) (Z : State) (a0 : Array Value) (hw : ∀ d ∈ tables_1, d.before a0 Z = true) (n0 : Nat) (a b m : Nat) (h0 : Heap) (O : Old Z n0 h0) (vf : Value) (hvf : vf.isRef = true) (S_f : Sta Z Z.heap "jdk/internal/util/Preconditions" "SIOOBE_FORMATTER" "Ljava/util/function/BiFunction;" vf) (hm : m < 2 ^ 29) (hab : a ≤ b) (hbm : b ≤ m) : Ct l Z n0 "java/lang/String" "checkBoundsBeginEnd" "(III)V" [] jdk_42_method_158_code 3 none R_cbbe #[.int (Int32.ofNat a), .int (Int32.ofNat b), .int (Int32.ofNat m)] h0 (fun v h => v = none ∧ h0 = h) := by
  refine Ct.of_go pf_cbbe (Ls := #[.val (.int (Int32.ofNat a)), .val (.int (Int32.ofNat b)), .val (.int (Int32.ofNat m))]) (fun m => by first | rfl | (simp [entryFrame, mkF, argsToLocals, Value.category]; done)) ?_
  show GM_cbbe l Z n0 (fun v h => v = none ∧ h0 = h) h0 0 0 0 #[.val (.int (Int32.ofNat a)), .val (.int (Int32.ofNat b)), .val (.int (Int32.ofNat m))] []
  refine Go.iloadN d_cbbe_0 rfl ?_
  refine Go.iloadN d_cbbe_1 rfl ?_
  refine Go.iloadN d_cbbe_2 rfl ?_
  refine Go.getS (wd_264 hw) Via.refl (S_f.ext O.2) d_cbbe_3 ?_
  -- at pc 6: pc 6: invokestatic .invokestatic 1062 stack [vf, (.int (Int32.ofNat m)), (.int (Int32.ofNat b)), (.int (Int32.ofNat a))]
  refine Go.callS (I' := IN) (hI := nQ) [(.int (Int32.ofNat a)), (.int (Int32.ofNat b)), (.int (Int32.ofNat m)), vf] [] (ct_cft l Z a0 hw n0 a b m vf hvf _ hm hab hbm) (wd_281 hw) (wd_282 hw) (wd_265 hw) (wd_283 hw) (by decide) pd_22 rfl rfl rfl (Nat.le_of_ble_eq_true rfl) (Nat.le_of_ble_eq_true rfl) (Nat.le_of_ble_eq_true rfl) (Nat.le_of_ble_eq_true rfl) d_cbbe_6 ?_
  rintro _ _ ⟨rfl, rfl⟩
  show GM_cbbe l Z n0 (fun v h => v = none ∧ h0 = h) h0 0 0 9 #[.val (.int (Int32.ofNat a)), .val (.int (Int32.ofNat b)), .val (.int (Int32.ofNat m))] [(.int (Int32.ofNat a))]
  refine Go.pop d_cbbe_9 rfl ?_
  -- at pc 10: pc 10: return .return_ stack []
  exact Go.return_ d_cbbe_10 rfl (by decide) (by decide) ⟨rfl, rfl⟩
theorem d_ucbbe_0 : decode jdk_52_method_93_code 0 = .ok (.iload_n 0, 1) := by decide +kernel
theorem d_ucbbe_1 : decode jdk_52_method_93_code 1 = .ok (.iload_n 1, 1) := by decide +kernel
theorem d_ucbbe_2 : decode jdk_52_method_93_code 2 = .ok (.aload_n 2, 1) := by decide +kernel
theorem d_ucbbe_3 : decode jdk_52_method_93_code 3 = .ok (.invokestatic 48, 3) := by decide +kernel
theorem d_ucbbe_6 : decode jdk_52_method_93_code 6 = .ok (.invokestatic 241, 3) := by decide +kernel
theorem d_ucbbe_9 : decode jdk_52_method_93_code 9 = .ok (.return_, 1) := by decide +kernel
abbrev R_ucbbe : Room := ({ frames := 2, cells := 0, slots := 0, locals := 30 } : Room)
abbrev GM_ucbbe (l : Launch) (Z : State) (n0 : Nat) (Q : Option Value → Heap → Prop) (h : Heap) (cells slots pc : Nat) (Ls : Array Slot) (st : List Value) : Prop := Go l Z n0 R_ucbbe "java/lang/StringUTF16" "checkBoundsBeginEnd" jdk_52_method_93_code 3 none IN (FN n0 R_ucbbe Q) h cells slots pc Ls st
abbrev GW_ucbbe (l : Launch) (Z : State) (EL : List (String × Nat)) (s₀ : State) (n0 : Nat) (Q : Option Value → Heap → Prop) (lo : Nat) (Sf : List Addr) (h : Heap) (cells slots pc : Nat) (Ls : Array Slot) (st : List Value) : Prop := Go l Z n0 R_ucbbe "java/lang/StringUTF16" "checkBoundsBeginEnd" jdk_52_method_93_code 3 none (IW Z EL s₀ lo Sf) (FW Z EL s₀ n0 R_ucbbe Q) h cells slots pc Ls st
theorem pf_ucbbe : plainFor (⟨"java/lang/StringUTF16", "checkBoundsBeginEnd", "(II[B)V"⟩ : MethodName) = true := plainFor_of_name (by first | (simp [plainName, overriddenIn]; done) | decide +kernel)
theorem ct_ucbbe (l : Launch) (Z : State) (a0 : Array Value) (hw : ∀ d ∈ tables_1, d.before a0 Z = true) (n0 : Nat) (va : Addr) (kv : ClassId) (a b m : Nat) (vs : List Value) (dv : Value) (h0 : Heap) (O : Old Z n0 h0) (vf : Value) (hvf : vf.isRef = true) (S_f : Sta Z Z.heap "jdk/internal/util/Preconditions" "SIOOBE_FORMATTER" "Ljava/util/function/BiFunction;" vf) (hm : m < 2 ^ 29) (hab : a ≤ b) (hbm : b ≤ m) (V_va : Arv Z h0 va kv .byte (Int32.ofNat (2 * m)) vs dv) : Ct l Z n0 "java/lang/StringUTF16" "checkBoundsBeginEnd" "(II[B)V" [] jdk_52_method_93_code 3 none R_ucbbe #[.int (Int32.ofNat a), .int (Int32.ofNat b), .ref va] h0 (fun v h => v = none ∧ h0 = h) := by
  refine Ct.of_go pf_ucbbe (Ls := #[.val (.int (Int32.ofNat a)), .val (.int (Int32.ofNat b)), .val (.ref va)]) (fun m => by first | rfl | (simp [entryFrame, mkF, argsToLocals, Value.category]; done)) ?_
  show GM_ucbbe l Z n0 (fun v h => v = none ∧ h0 = h) h0 0 0 0 #[.val (.int (Int32.ofNat a)), .val (.int (Int32.ofNat b)), .val (.ref va)] []
  refine Go.iloadN d_ucbbe_0 rfl ?_
  refine Go.iloadN d_ucbbe_1 rfl ?_
  refine Go.aloadN d_ucbbe_2 rfl rfl ?_
  -- at pc 3: pc 3: invokestatic .invokestatic 48 stack [(.ref va), (.int (Int32.ofNat b)), (.int (Int32.ofNat a))]
  refine Go.callS (I' := IN) (hI := nQ) [(.ref va)] [(.int (Int32.ofNat b)), (.int (Int32.ofNat a))] (ct_ulen l Z a0 hw n0 va kv m vs dv _ hm V_va) (wd_258 hw) (wd_259 hw) (wd_18 hw) (wd_260 hw) (by decide) pd_23 rfl rfl rfl (Nat.le_of_ble_eq_true rfl) (Nat.le_of_ble_eq_true rfl) (Nat.le_of_ble_eq_true rfl) (Nat.le_of_ble_eq_true rfl) d_ucbbe_3 ?_
  rintro _ _ ⟨rfl, rfl⟩
  show GM_ucbbe l Z n0 (fun v h => v = none ∧ h0 = h) h0 0 0 6 #[.val (.int (Int32.ofNat a)), .val (.int (Int32.ofNat b)), .val (.ref va)] [(.int (Int32.ofNat m)), (.int (Int32.ofNat b)), (.int (Int32.ofNat a))]
  -- at pc 6: pc 6: invokestatic .invokestatic 241 stack [(.int (Int32.ofNat m)), (.int (Int32.ofNat b)), (.int (Int32.ofNat a))]
  refine Go.callS (I' := IN) (hI := nQ) [(.int (Int32.ofNat a)), (.int (Int32.ofNat b)), (.int (Int32.ofNat m))] [] (ct_cbbe l Z a0 hw n0 a b m _ O vf hvf S_f hm hab hbm) (wd_278 hw) (wd_279 hw) (wd_3 hw) (wd_280 hw) (by decide) pd_29 rfl rfl rfl (Nat.le_of_ble_eq_true rfl) (Nat.le_of_ble_eq_true rfl) (Nat.le_of_ble_eq_true rfl) (Nat.le_of_ble_eq_true rfl) d_ucbbe_6 ?_
  rintro _ _ ⟨rfl, rfl⟩
  show GM_ucbbe l Z n0 (fun v h => v = none ∧ h0 = h) h0 0 0 9 #[.val (.int (Int32.ofNat a)), .val (.int (Int32.ofNat b)), .val (.ref va)] []
  -- at pc 9: pc 9: return .return_ stack []
  exact Go.return_ d_ucbbe_9 rfl (by decide) (by decide) ⟨rfl, rfl⟩
theorem d_gcu3_0 : decode jdk_52_method_77_code 0 = .ok (.iload_n 1, 1) := by decide +kernel
theorem d_gcu3_1 : decode jdk_52_method_77_code 1 = .ok (.iload_n 2, 1) := by decide +kernel
theorem d_gcu3_2 : decode jdk_52_method_77_code 2 = .ok (.aload_n 3, 1) := by decide +kernel
theorem d_gcu3_3 : decode jdk_52_method_77_code 3 = .ok (.invokestatic 96, 3) := by decide +kernel
theorem d_gcu3_6 : decode jdk_52_method_77_code 6 = .ok (.iload_n 0, 1) := by decide +kernel
theorem d_gcu3_7 : decode jdk_52_method_77_code 7 = .ok (.iload_n 2, 1) := by decide +kernel
theorem d_gcu3_8 : decode jdk_52_method_77_code 8 = .ok (.aload_n 3, 1) := by decide +kernel
theorem d_gcu3_9 : decode jdk_52_method_77_code 9 = .ok (.invokestatic 393, 3) := by decide +kernel
theorem d_gcu3_12 : decode jdk_52_method_77_code 12 = .ok (.istore 4, 2) := by decide +kernel
theorem d_gcu3_14 : decode jdk_52_method_77_code 14 = .ok (.getstatic 44, 3) := by decide +kernel
theorem d_gcu3_17 : decode jdk_52_method_77_code 17 = .ok (.ifCond .ne 17, 3) := by decide +kernel
theorem d_gcu3_34 : decode jdk_52_method_77_code 34 = .ok (.iload 4, 2) := by decide +kernel
theorem d_gcu3_36 : decode jdk_52_method_77_code 36 = .ok (.ireturn, 1) := by decide +kernel
abbrev R_gcu3 : Room := ({ frames := 3, cells := 0, slots := 0, locals := 46 } : Room)
abbrev GM_gcu3 (l : Launch) (Z : State) (n0 : Nat) (Q : Option Value → Heap → Prop) (h : Heap) (cells slots pc : Nat) (Ls : Array Slot) (st : List Value) : Prop := Go l Z n0 R_gcu3 "java/lang/StringUTF16" "getChars" jdk_52_method_77_code 5 (some .int) IN (FN n0 R_gcu3 Q) h cells slots pc Ls st
abbrev GW_gcu3 (l : Launch) (Z : State) (EL : List (String × Nat)) (s₀ : State) (n0 : Nat) (Q : Option Value → Heap → Prop) (lo : Nat) (Sf : List Addr) (h : Heap) (cells slots pc : Nat) (Ls : Array Slot) (st : List Value) : Prop := Go l Z n0 R_gcu3 "java/lang/StringUTF16" "getChars" jdk_52_method_77_code 5 (some .int) (IW Z EL s₀ lo Sf) (FW Z EL s₀ n0 R_gcu3 Q) h cells slots pc Ls st
theorem pf_gcu3 : plainFor (⟨"java/lang/StringUTF16", "getChars", "(III[B)I"⟩ : MethodName) = true := plainFor_of_name (by first | (simp [plainName, overriddenIn]; done) | decide +kernel)
theorem ct_gcu3 (l : Launch) (Z : State) (a0 : Array Value) (hw : ∀ d ∈ tables_1, d.before a0 Z = true) (n0 : Nat) (va : Addr) (kv : ClassId) (cs : List Int32) (h0 : Heap) (O : Old Z n0 h0) (S_ad : Sta Z Z.heap "java/lang/StringUTF16" "$assertionsDisabled" "Z" (.int (1 : Int32))) (S_hi : Sta Z Z.heap "java/lang/StringUTF16" "HI_BYTE_SHIFT" "I" (.int (0 : Int32))) (S_lo : Sta Z Z.heap "java/lang/StringUTF16" "LO_BYTE_SHIFT" "I" (.int (8 : Int32))) (vf : Value) (hvf : vf.isRef = true) (S_f : Sta Z Z.heap "jdk/internal/util/Preconditions" "SIOOBE_FORMATTER" "Ljava/util/function/BiFunction;" vf) (dg : Addr) (kd : ClassId) (vd : List Value) (S_dg : Sta Z Z.heap "java/lang/Integer" "DigitOnes" "[B" (.ref dg)) (V_dg : Arv Z Z.heap dg kd .byte (100 : Int32) vd (.int (0 : Int32))) (hd0 : vd.getD 0 (.int (0 : Int32)) = .int (48 : Int32)) (g_va : n0 ≤ va) (hl : cs.length + 1 ≤ 16) (V_va : Arv Z h0 va kv .byte (Int32.ofNat (2 * 16)) ((enc2 cs).map Value.int) (.int (0 : Int32))) :
    Ct l Z n0 "java/lang/StringUTF16" "getChars" "(III[B)I" [] jdk_52_method_77_code 5 (some .int) R_gcu3 #[.int (0 : Int32), .int (Int32.ofNat cs.length), .int (Int32.ofNat (cs.length + 1)), .ref va] h0 (fun v h => (∃ p : Int32, v = some (.int p)) ∧ Keep h0 h [va] ∧ Arv Z h va kv .byte (Int32.ofNat (2 * 16)) ((enc2 (cs ++ [48])).map Value.int) (.int (0 : Int32))) := by
  refine Ct.of_go pf_gcu3 (Ls := #[.val (.int (0 : Int32)), .val (.int (Int32.ofNat cs.length)), .val (.int (Int32.ofNat (cs.length + 1))), .val (.ref va), .unset]) (fun m => by first | rfl | (simp [entryFrame, mkF, argsToLocals, Value.category]; done)) ?_
  show GM_gcu3 l Z n0 (fun v h => (∃ p : Int32, v = some (.int p)) ∧ Keep h0 h [va] ∧ Arv Z h va kv .byte (Int32.ofNat (2 * 16)) ((enc2 (cs ++ [48])).map Value.int) (.int (0 : Int32))) h0 0 0 0 #[.val (.int (0 : Int32)), .val (.int (Int32.ofNat cs.length)), .val (.int (Int32.ofNat (cs.length + 1))), .val (.ref va), .unset] []
  refine Go.iloadN d_gcu3_0 rfl ?_
  refine Go.iloadN d_gcu3_1 rfl ?_
  refine Go.aloadN d_gcu3_2 rfl rfl ?_
  -- at pc 3: pc 3: invokestatic .invokestatic 96 stack [(.ref va), (.int (Int32.ofNat (cs.length + 1))), (.int (Int32.ofNat cs.length))]
  refine Go.callS (I' := IN) (hI := nQ) [(.int (Int32.ofNat cs.length)), (.int (Int32.ofNat (cs.length + 1))), (.ref va)] [] (ct_ucbbe l Z a0 hw n0 va kv cs.length (cs.length + 1) 16 _ _ _ O vf hvf S_f (by decide) (by omega) hl V_va) (wd_275 hw) (wd_276 hw) (wd_18 hw) (wd_277 hw) (by decide) pd_25 rfl rfl rfl (Nat.le_of_ble_eq_true rfl) (Nat.le_of_ble_eq_true rfl) (Nat.le_of_ble_eq_true rfl) (Nat.le_of_ble_eq_true rfl) d_gcu3_3 ?_
  rintro _ _ ⟨rfl, rfl⟩
  show GM_gcu3 l Z n0 (fun v h => (∃ p : Int32, v = some (.int p)) ∧ Keep h0 h [va] ∧ Arv Z h va kv .byte (Int32.ofNat (2 * 16)) ((enc2 (cs ++ [48])).map Value.int) (.int (0 : Int32))) h0 0 0 6 #[.val (.int (0 : Int32)), .val (.int (Int32.ofNat cs.length)), .val (.int (Int32.ofNat (cs.length + 1))), .val (.ref va), .unset] []
  refine Go.iloadN d_gcu3_6 rfl ?_
  refine Go.iloadN d_gcu3_7 rfl ?_
  refine Go.aloadN d_gcu3_8 rfl rfl ?_
  -- at pc 9: pc 9: invokestatic .invokestatic 393 stack [(.ref va), (.int (Int32.ofNat (cs.length + 1))), (.int (0 : Int32))]
  refine Go.callS (I' := IN) (hI := nQ) [(.int (0 : Int32)), (.int (Int32.ofNat (cs.length + 1))), (.ref va)] [] (ct_gchu l Z a0 hw n0 va kv cs _ O S_ad S_hi S_lo dg kd vd S_dg V_dg hd0 g_va hl V_va) (wd_284 hw) (wd_285 hw) (wd_18 hw) (wd_286 hw) (by decide) pd_30 rfl rfl rfl (Nat.le_of_ble_eq_true rfl) (Nat.le_of_ble_eq_true rfl) (Nat.le_of_ble_eq_true rfl) (Nat.le_of_ble_eq_true rfl) d_gcu3_9 ?_
  rintro _ hp90 ⟨⟨p, rfl⟩, K1, V1⟩
  replace O := O.keep K1 (allS g_va (all0))
  show GM_gcu3 l Z n0 (fun v h => (∃ p : Int32, v = some (.int p)) ∧ Keep h0 h [va] ∧ Arv Z h va kv .byte (Int32.ofNat (2 * 16)) ((enc2 (cs ++ [48])).map Value.int) (.int (0 : Int32))) hp90 0 0 12 #[.val (.int (0 : Int32)), .val (.int (Int32.ofNat cs.length)), .val (.int (Int32.ofNat (cs.length + 1))), .val (.ref va), .unset] [(.int p)]
  refine Go.istore (Ls' := #[.val (.int (0 : Int32)), .val (.int (Int32.ofNat cs.length)), .val (.int (Int32.ofNat (cs.length + 1))), .val (.ref va), .val (.int p)]) d_gcu3_12 rfl ?_
  refine Go.getS (wd_237 hw) Via.refl (S_ad.ext O.2) d_gcu3_14 ?_
  -- at pc 17: pc 17: ifCond .ifCond .ne 17 stack [(.int (1 : Int32))]
  -- not: (1 : Int32) = (0 : Int32)
  refine Go.ifT 34 d_gcu3_17 (feq (by decide)).2 (by decide) (by decide) ?_
  refine Go.iload d_gcu3_34 rfl ?_
  -- at pc 36: pc 36: ireturn .ireturn stack [(.int p)]
  exact Go.ireturn d_gcu3_36 rfl (by decide) (by decide) ⟨⟨_, rfl⟩, K1, V1⟩
theorem d_apIA_0 : decode jdk_68_method_32_code 0 = .ok (.aload_n 0, 1) := by decide +kernel
theorem d_apIA_1 : decode jdk_68_method_32_code 1 = .ok (.getfield 79, 3) := by decide +kernel
theorem d_apIA_4 : decode jdk_68_method_32_code 4 = .ok (.istore_n 2, 1) := by decide +kernel
theorem d_apIA_5 : decode jdk_68_method_32_code 5 = .ok (.iload_n 2, 1) := by decide +kernel
theorem d_apIA_6 : decode jdk_68_method_32_code 6 = .ok (.iload_n 1, 1) := by decide +kernel
theorem d_apIA_7 : decode jdk_68_method_32_code 7 = .ok (.invokestatic 245, 3) := by decide +kernel
theorem d_apIA_10 : decode jdk_68_method_32_code 10 = .ok (.iadd, 1) := by decide +kernel
theorem d_apIA_11 : decode jdk_68_method_32_code 11 = .ok (.istore_n 3, 1) := by decide +kernel
theorem d_apIA_12 : decode jdk_68_method_32_code 12 = .ok (.aload_n 0, 1) := by decide +kernel
theorem d_apIA_13 : decode jdk_68_method_32_code 13 = .ok (.iload_n 3, 1) := by decide +kernel
theorem d_apIA_14 : decode jdk_68_method_32_code 14 = .ok (.invokevirtual 100, 3) := by decide +kernel
theorem d_apIA_17 : decode jdk_68_method_32_code 17 = .ok (.aload_n 0, 1) := by decide +kernel
theorem d_apIA_18 : decode jdk_68_method_32_code 18 = .ok (.invokevirtual 83, 3) := by decide +kernel
theorem d_apIA_21 : decode jdk_68_method_32_code 21 = .ok (.ifCond .eq 16, 3) := by decide +kernel
theorem d_apIA_24 : decode jdk_68_method_32_code 24 = .ok (.iload_n 1, 1) := by decide +kernel
theorem d_apIA_25 : decode jdk_68_method_32_code 25 = .ok (.iload_n 3, 1) := by decide +kernel
theorem d_apIA_26 : decode jdk_68_method_32_code 26 = .ok (.aload_n 0, 1) := by decide +kernel
theorem d_apIA_27 : decode jdk_68_method_32_code 27 = .ok (.getfield 15, 3) := by decide +kernel
theorem d_apIA_30 : decode jdk_68_method_32_code 30 = .ok (.invokestatic 248, 3) := by decide +kernel
theorem d_apIA_33 : decode jdk_68_method_32_code 33 = .ok (.pop, 1) := by decide +kernel
theorem d_apIA_34 : decode jdk_68_method_32_code 34 = .ok (.goto 14, 3) := by decide +kernel
theorem d_apIA_37 : decode jdk_68_method_32_code 37 = .ok (.iload_n 1, 1) := by decide +kernel
theorem d_apIA_38 : decode jdk_68_method_32_code 38 = .ok (.iload_n 2, 1) := by decide +kernel
theorem d_apIA_39 : decode jdk_68_method_32_code 39 = .ok (.iload_n 3, 1) := by decide +kernel
theorem d_apIA_40 : decode jdk_68_method_32_code 40 = .ok (.aload_n 0, 1) := by decide +kernel
theorem d_apIA_41 : decode jdk_68_method_32_code 41 = .ok (.getfield 15, 3) := by decide +kernel
theorem d_apIA_44 : decode jdk_68_method_32_code 44 = .ok (.invokestatic 251, 3) := by decide +kernel
theorem d_apIA_47 : decode jdk_68_method_32_code 47 = .ok (.pop, 1) := by decide +kernel
theorem d_apIA_48 : decode jdk_68_method_32_code 48 = .ok (.aload_n 0, 1) := by decide +kernel
theorem d_apIA_49 : decode jdk_68_method_32_code 49 = .ok (.iload_n 3, 1) := by decide +kernel
theorem d_apIA_50 : decode jdk_68_method_32_code 50 = .ok (.putfield 79, 3) := by decide +kernel
theorem d_apIA_53 : decode jdk_68_method_32_code 53 = .ok (.aload_n 0, 1) := by decide +kernel
theorem d_apIA_54 : decode jdk_68_method_32_code 54 = .ok (.areturn, 1) := by decide +kernel
abbrev R_apIA : Room := ({ frames := 4, cells := 0, slots := 0, locals := 64 } : Room)
abbrev GM_apIA (l : Launch) (Z : State) (n0 : Nat) (Q : Option Value → Heap → Prop) (h : Heap) (cells slots pc : Nat) (Ls : Array Slot) (st : List Value) : Prop := Go l Z n0 R_apIA "java/lang/AbstractStringBuilder" "append" jdk_68_method_32_code 4 (some (.object "java/lang/AbstractStringBuilder")) IN (FN n0 R_apIA Q) h cells slots pc Ls st
abbrev GW_apIA (l : Launch) (Z : State) (EL : List (String × Nat)) (s₀ : State) (n0 : Nat) (Q : Option Value → Heap → Prop) (lo : Nat) (Sf : List Addr) (h : Heap) (cells slots pc : Nat) (Ls : Array Slot) (st : List Value) : Prop := Go l Z n0 R_apIA "java/lang/AbstractStringBuilder" "append" jdk_68_method_32_code 4 (some (.object "java/lang/AbstractStringBuilder")) (IW Z EL s₀ lo Sf) (FW Z EL s₀ n0 R_apIA Q) h cells slots pc Ls st
theorem pf_apIA : plainFor (⟨"java/lang/AbstractStringBuilder", "append", "(I)Ljava/lang/AbstractStringBuilder;"⟩ : MethodName) = true := plainFor_of_name (by first | (simp [plainName, overriddenIn]; done) | decide +kernel)
theorem ct_apIA (l : Launch) (Z : State) (a0 : Array Value) (hw : ∀ d ∈ tables_1, d.before a0 Z = true) (n0 : Nat) (sb va : Addr) (kv : ClassId) (cs : List Int32) (h0 : Heap) (O : Old Z n0 h0) (z : Int32) (S_cs : Sta Z Z.heap "java/lang/String" "COMPACT_STRINGS" "Z" (.int z)) (hcs : ¬ z = 0) (dg : Addr) (kd : ClassId) (vd : List Value) (S_dg : Sta Z Z.heap "java/lang/Integer" "DigitOnes" "[B" (.ref dg)) (V_dg : Arv Z Z.heap dg kd .byte (100 : Int32) vd (.int (0 : Int32))) (hd0 : vd.getD 0 (.int (0 : Int32)) = .int (48 : Int32)) (g_sb : n0 ≤ sb) (g_va : n0 ≤ va) (nsv : sb ≠ va) (S : Sbd Z h0 sb va kv cs) (hl : cs.length + 1 ≤ 16) :
    Ct l Z n0 "java/lang/AbstractStringBuilder" "append" "(I)Ljava/lang/AbstractStringBuilder;" [] jdk_68_method_32_code 4 (some (.object "java/lang/AbstractStringBuilder")) R_apIA #[.ref sb, .int (0 : Int32)] h0 (fun v h => v = some (.ref sb) ∧ Keep h0 h [sb, va] ∧ Sbd Z h sb va kv (cs ++ [48])) := by
  have S0 := S
  obtain ⟨E_sb, F_sb_value, F_sb_coder, F_sb_count, V_va, F_sb_maybeLatin1⟩ := S
  refine Ct.of_go pf_apIA (Ls := #[.val (.ref sb), .val (.int (0 : Int32)), .unset, .unset]) (fun m => by first | rfl | (simp [entryFrame, mkF, argsToLocals, Value.category]; done)) ?_
  show GM_apIA l Z n0 (fun v h => v = some (.ref sb) ∧ Keep h0 h [sb, va] ∧ Sbd Z h sb va kv (cs ++ [48])) h0 0 0 0 #[.val (.ref sb), .val (.int (0 : Int32)), .unset, .unset] []
  have KK : Keep h0 h0 [sb, va] := Keep.refl _ _
  refine Go.aloadN d_apIA_0 rfl rfl ?_
  refine Go.getF (wd_122 hw) Via.refl F_sb_count d_apIA_1 ?_
  refine Go.istoreN (Ls' := #[.val (.ref sb), .val (.int (0 : Int32)), .val (.int (Int32.ofNat cs.length)), .unset]) d_apIA_4 rfl ?_
  refine Go.iloadN d_apIA_5 rfl ?_
  refine Go.iloadN d_apIA_6 rfl ?_
  -- at pc 7: pc 7: invokestatic .invokestatic 245 stack [(.int (0 : Int32)), (.int (Int32.ofNat cs.length))]
  refine Go.callS (I' := IN) (hI := nQ) [(.int (0 : Int32))] [(.int (Int32.ofNat cs.length))] (ct_ssz l Z a0 hw n0 _) (wd_161 hw) (wd_162 hw) (wd_163 hw) (wd_164 hw) (by decide) pd_14 rfl rfl rfl (Nat.le_of_ble_eq_true rfl) (Nat.le_of_ble_eq_true rfl) (Nat.le_of_ble_eq_true rfl) (Nat.le_of_ble_eq_true rfl) d_apIA_7 ?_
  rintro _ _ ⟨rfl, rfl⟩
  show GM_apIA l Z n0 (fun v h => v = some (.ref sb) ∧ Keep h0 h [sb, va] ∧ Sbd Z h sb va kv (cs ++ [48])) h0 0 0 10 #[.val (.ref sb), .val (.int (0 : Int32)), .val (.int (Int32.ofNat cs.length)), .unset] [(.int (1 : Int32)), (.int (Int32.ofNat cs.length))]
  refine Go.iadd d_apIA_10 ?_
  rw [show ((Int32.ofNat cs.length) + (1 : Int32)) = (Int32.ofNat (cs.length + 1)) from (own_of1 _)]
  refine Go.istoreN (Ls' := #[.val (.ref sb), .val (.int (0 : Int32)), .val (.int (Int32.ofNat cs.length)), .val (.int (Int32.ofNat (cs.length + 1)))]) d_apIA_11 rfl ?_
  refine Go.aloadN d_apIA_12 rfl rfl ?_
  refine Go.iloadN d_apIA_13 rfl ?_
  -- at pc 14: pc 14: invokevirtual .invokevirtual 100 stack [(.int (Int32.ofNat (cs.length + 1))), (.ref sb)]
  refine Go.callP (I' := IN) (hI := nQ) sb [(.int (Int32.ofNat (cs.length + 1)))] [] (ct_ecap l Z a0 hw n0 sb va kv cs (Int32.ofNat (cs.length + 1)) _ S0 (own_cap _ hl)) E_sb (wd_124 hw) (wd_125 hw) (sel_priv2 (y := (⟨"java/lang/AbstractStringBuilder", "ensureCapacityInternal", "(I)V"⟩ : MethodName)) (show Ord Z "java/lang/AbstractStringBuilder" from Ord.sel (wd_127 hw)) (wd_125 hw) (wd_126 hw) (by decide)) (wd_126 hw) (wd_94 hw) (wd_128 hw) (by decide) pd_1 rfl rfl rfl (Nat.le_of_ble_eq_true rfl) (Nat.le_of_ble_eq_true rfl) (Nat.le_of_ble_eq_true rfl) (Nat.le_of_ble_eq_true rfl) d_apIA_14 ?_
  rintro _ _ ⟨rfl, rfl⟩
  show GM_apIA l Z n0 (fun v h => v = some (.ref sb) ∧ Keep h0 h [sb, va] ∧ Sbd Z h sb va kv (cs ++ [48])) h0 0 0 17 #[.val (.ref sb), .val (.int (0 : Int32)), .val (.int (Int32.ofNat cs.length)), .val (.int (Int32.ofNat (cs.length + 1)))] []
  refine Go.aloadN d_apIA_17 rfl rfl ?_
  -- at pc 18: pc 18: invokevirtual .invokevirtual 83 stack [(.ref sb)]
  refine Go.callV (I' := IN) (hI := nQ) sb [] [] (ct_isL l Z a0 hw n0 sb _ O z S_cs hcs F_sb_coder) E_sb (wd_165 hw) (wd_166 hw) (nf_sel (wd_168 hw)) (wd_168 hw) (wd_167 hw) (wd_94 hw) (wd_169 hw) (by decide) pd_11 rfl rfl rfl (Nat.le_of_ble_eq_true rfl) (Nat.le_of_ble_eq_true rfl) (Nat.le_of_ble_eq_true rfl) (Nat.le_of_ble_eq_true rfl) d_apIA_18 ?_
  rintro _ _ ⟨rfl, rfl⟩
  show GM_apIA l Z n0 (fun v h => v = some (.ref sb) ∧ Keep h0 h [sb, va] ∧ Sbd Z h sb va kv (cs ++ [48])) h0 0 0 21 #[.val (.ref sb), .val (.int (0 : Int32)), .val (.int (Int32.ofNat cs.length)), .val (.int (Int32.ofNat (cs.length + 1)))] [(.int (1 : Int32))]
  -- at pc 21: pc 21: ifCond .ifCond .eq 16 stack [(.int (1 : Int32))]
  -- not: (1 : Int32) = (0 : Int32)
  refine Go.ifF d_apIA_21 (feq (by decide)).1 ?_
  refine Go.iloadN d_apIA_24 rfl ?_
  refine Go.iloadN d_apIA_25 rfl ?_
  refine Go.aloadN d_apIA_26 rfl rfl ?_
  refine Go.getF (wd_98 hw) Via.refl F_sb_value d_apIA_27 ?_
  -- at pc 30: pc 30: invokestatic .invokestatic 248 stack [(.ref va), (.int (Int32.ofNat (cs.length + 1))), (.int (0 : Int32))]
  refine Go.callS (I' := IN) (hI := nQ) [(.int (0 : Int32)), (.int (Int32.ofNat (cs.length + 1))), (.ref va)] [] (ct_gch l Z a0 hw n0 va kv cs _ O dg kd vd S_dg V_dg hd0 g_va hl V_va) (wd_170 hw) (wd_171 hw) (wd_163 hw) (wd_172 hw) (by decide) pd_30 rfl rfl rfl (Nat.le_of_ble_eq_true rfl) (Nat.le_of_ble_eq_true rfl) (Nat.le_of_ble_eq_true rfl) (Nat.le_of_ble_eq_true rfl) d_apIA_30 ?_
  rintro _ hp94 ⟨⟨p, rfl⟩, K94, V1⟩
  replace O := O.keep K94 (allS g_va (all0))
  replace E_sb := E_sb.keep K94
  replace F_sb_value := F_sb_value.keep K94 (ninS nsv nin0)
  replace F_sb_coder := F_sb_coder.keep K94 (ninS nsv nin0)
  replace F_sb_count := F_sb_count.keep K94 (ninS nsv nin0)
  replace F_sb_maybeLatin1 := F_sb_maybeLatin1.keep K94 (ninS nsv nin0)
  replace KK : Keep h0 hp94 [sb, va] := KK.trans K94 (allS (Or.inl (by simp)) (all0))
  show GM_apIA l Z n0 (fun v h => v = some (.ref sb) ∧ Keep h0 h [sb, va] ∧ Sbd Z h sb va kv (cs ++ [48])) hp94 0 0 33 #[.val (.ref sb), .val (.int (0 : Int32)), .val (.int (Int32.ofNat cs.length)), .val (.int (Int32.ofNat (cs.length + 1)))] [(.int p)]
  refine Go.pop d_apIA_33 rfl ?_
  refine Go.goto 48 d_apIA_34 (by decide) (by decide) ?_
  refine Go.aloadN d_apIA_48 rfl rfl ?_
  refine Go.iloadN d_apIA_49 rfl ?_
  refine Go.putF (I' := IN) (hI := nI) (wd_122 hw) Via.refl F_sb_count E_sb (Or.inl (wd_123 hw)) (wd_85 hw) (ty := .int) (by decide) rfl rfl g_sb d_apIA_50 fun hp95 W95 => ?_
  have K95 := Keep.of_wr W95
  replace F_sb_value := F_sb_value.other W95 (Or.inr (slot_ne (Or.inl (wd_99 hw)) (Or.inl (wd_123 hw)) (by decide) (t := (.array .byte)) (t' := .int) (by decide) (by decide)))
  replace F_sb_coder := F_sb_coder.other W95 (Or.inr (slot_ne (Or.inl (wd_101 hw)) (Or.inl (wd_123 hw)) (by decide) (t := .byte) (t' := .int) (by decide) (by decide)))
  replace F_sb_count := F_sb_count.same W95
  replace F_sb_maybeLatin1 := F_sb_maybeLatin1.other W95 (Or.inr (slot_ne (Or.inl (wd_271 hw)) (Or.inl (wd_123 hw)) (by decide) (t := .boolean) (t' := .int) (by decide) (by decide)))
  replace O := O.keep K95 (allS g_sb (all0))
  replace E_sb := E_sb.keep K95
  replace V1 := V1.keep K95 (ninS (Ne.symm nsv) nin0)
  replace KK : Keep h0 hp95 [sb, va] := KK.trans K95 (allS (Or.inl (by simp)) (all0))
  refine Go.aloadN d_apIA_53 rfl rfl ?_
  -- at pc 54: pc 54: areturn .areturn stack [(.ref sb)]
  exact Go.areturn d_apIA_54 rfl rfl rfl (by decide) (by decide) ⟨rfl, KK, E_sb, F_sb_value, F_sb_coder, by rw [List.length_append]; exact F_sb_count, V1, F_sb_maybeLatin1⟩
theorem ct_apIAu (l : Launch) (Z : State) (a0 : Array Value) (hw : ∀ d ∈ tables_1, d.before a0 Z = true) (n0 : Nat) (sb va : Addr) (kv : ClassId) (cs : List Int32) (h0 : Heap) (O : Old Z n0 h0) (z : Int32) (S_cs : Sta Z Z.heap "java/lang/String" "COMPACT_STRINGS" "Z" (.int z)) (hcs : ¬ z = 0) (S_ad : Sta Z Z.heap "java/lang/StringUTF16" "$assertionsDisabled" "Z" (.int (1 : Int32))) (S_hi : Sta Z Z.heap "java/lang/StringUTF16" "HI_BYTE_SHIFT" "I" (.int (0 : Int32))) (S_lo : Sta Z Z.heap "java/lang/StringUTF16" "LO_BYTE_SHIFT" "I" (.int (8 : Int32))) (vf : Value) (hvf : vf.isRef = true) (S_f : Sta Z Z.heap "jdk/internal/util/Preconditions" "SIOOBE_FORMATTER" "Ljava/util/function/BiFunction;" vf) (dg : Addr) (kd : ClassId) (vd : List Value) (S_dg : Sta Z Z.heap "java/lang/Integer" "DigitOnes" "[B" (.ref dg)) (V_dg : Arv Z Z.heap dg kd .byte (100 : Int32) vd (.int (0 : Int32))) (hd0 : vd.getD 0 (.int (0 : Int32)) = .int (48 : Int32)) (g_sb : n0 ≤ sb) (g_va : n0 ≤ va) (nsv : sb ≠ va) (S : Sbu Z h0 sb va kv cs) (hl : cs.length + 1 ≤ 16) :
    Ct l Z n0 "java/lang/AbstractStringBuilder" "append" "(I)Ljava/lang/AbstractStringBuilder;" [] jdk_68_method_32_code 4 (some (.object "java/lang/AbstractStringBuilder")) R_apIA #[.ref sb, .int (0 : Int32)] h0 (fun v h => v = some (.ref sb) ∧ Keep h0 h [sb, va] ∧ Sbu Z h sb va kv (cs ++ [48])) := by
  have S0 := S
  obtain ⟨E_sb, F_sb_value, F_sb_coder, F_sb_count, V_va, F_sb_maybeLatin1⟩ := S
  refine Ct.of_go pf_apIA (Ls := #[.val (.ref sb), .val (.int (0 : Int32)), .unset, .unset]) (fun m => by first | rfl | (simp [entryFrame, mkF, argsToLocals, Value.category]; done)) ?_
  show GM_apIA l Z n0 (fun v h => v = some (.ref sb) ∧ Keep h0 h [sb, va] ∧ Sbu Z h sb va kv (cs ++ [48])) h0 0 0 0 #[.val (.ref sb), .val (.int (0 : Int32)), .unset, .unset] []
  have KK : Keep h0 h0 [sb, va] := Keep.refl _ _
  refine Go.aloadN d_apIA_0 rfl rfl ?_
  refine Go.getF (wd_122 hw) Via.refl F_sb_count d_apIA_1 ?_
  refine Go.istoreN (Ls' := #[.val (.ref sb), .val (.int (0 : Int32)), .val (.int (Int32.ofNat cs.length)), .unset]) d_apIA_4 rfl ?_
  refine Go.iloadN d_apIA_5 rfl ?_
  refine Go.iloadN d_apIA_6 rfl ?_
  -- at pc 7: pc 7: invokestatic .invokestatic 245 stack [(.int (0 : Int32)), (.int (Int32.ofNat cs.length))]
  refine Go.callS (I' := IN) (hI := nQ) [(.int (0 : Int32))] [(.int (Int32.ofNat cs.length))] (ct_ssz l Z a0 hw n0 _) (wd_161 hw) (wd_162 hw) (wd_163 hw) (wd_164 hw) (by decide) pd_14 rfl rfl rfl (Nat.le_of_ble_eq_true rfl) (Nat.le_of_ble_eq_true rfl) (Nat.le_of_ble_eq_true rfl) (Nat.le_of_ble_eq_true rfl) d_apIA_7 ?_
  rintro _ _ ⟨rfl, rfl⟩
  show GM_apIA l Z n0 (fun v h => v = some (.ref sb) ∧ Keep h0 h [sb, va] ∧ Sbu Z h sb va kv (cs ++ [48])) h0 0 0 10 #[.val (.ref sb), .val (.int (0 : Int32)), .val (.int (Int32.ofNat cs.length)), .unset] [(.int (1 : Int32)), (.int (Int32.ofNat cs.length))]
  refine Go.iadd d_apIA_10 ?_
  rw [show ((Int32.ofNat cs.length) + (1 : Int32)) = (Int32.ofNat (cs.length + 1)) from (own_of1 _)]
  refine Go.istoreN (Ls' := #[.val (.ref sb), .val (.int (0 : Int32)), .val (.int (Int32.ofNat cs.length)), .val (.int (Int32.ofNat (cs.length + 1)))]) d_apIA_11 rfl ?_
  refine Go.aloadN d_apIA_12 rfl rfl ?_
  refine Go.iloadN d_apIA_13 rfl ?_
  -- at pc 14: pc 14: invokevirtual .invokevirtual 100 stack [(.int (Int32.ofNat (cs.length + 1))), (.ref sb)]
  refine Go.callP (I' := IN) (hI := nQ) sb [(.int (Int32.ofNat (cs.length + 1)))] [] (ct_ecap1 l Z a0 hw n0 sb va kv cs (Int32.ofNat (cs.length + 1)) _ S0 (own_cap1 hl)) E_sb (wd_124 hw) (wd_125 hw) (sel_priv2 (y := (⟨"java/lang/AbstractStringBuilder", "ensureCapacityInternal", "(I)V"⟩ : MethodName)) (show Ord Z "java/lang/AbstractStringBuilder" from Ord.sel (wd_127 hw)) (wd_125 hw) (wd_126 hw) (by decide)) (wd_126 hw) (wd_94 hw) (wd_128 hw) (by decide) pd_1 rfl rfl rfl (Nat.le_of_ble_eq_true rfl) (Nat.le_of_ble_eq_true rfl) (Nat.le_of_ble_eq_true rfl) (Nat.le_of_ble_eq_true rfl) d_apIA_14 ?_
  rintro _ _ ⟨rfl, rfl⟩
  show GM_apIA l Z n0 (fun v h => v = some (.ref sb) ∧ Keep h0 h [sb, va] ∧ Sbu Z h sb va kv (cs ++ [48])) h0 0 0 17 #[.val (.ref sb), .val (.int (0 : Int32)), .val (.int (Int32.ofNat cs.length)), .val (.int (Int32.ofNat (cs.length + 1)))] []
  refine Go.aloadN d_apIA_17 rfl rfl ?_
  -- at pc 18: pc 18: invokevirtual .invokevirtual 83 stack [(.ref sb)]
  refine Go.callV (I' := IN) (hI := nQ) sb [] [] (ct_isL0 l Z a0 hw n0 sb _ O z S_cs hcs F_sb_coder) E_sb (wd_165 hw) (wd_166 hw) (nf_sel (wd_168 hw)) (wd_168 hw) (wd_167 hw) (wd_94 hw) (wd_169 hw) (by decide) pd_11 rfl rfl rfl (Nat.le_of_ble_eq_true rfl) (Nat.le_of_ble_eq_true rfl) (Nat.le_of_ble_eq_true rfl) (Nat.le_of_ble_eq_true rfl) d_apIA_18 ?_
  rintro _ _ ⟨rfl, rfl⟩
  show GM_apIA l Z n0 (fun v h => v = some (.ref sb) ∧ Keep h0 h [sb, va] ∧ Sbu Z h sb va kv (cs ++ [48])) h0 0 0 21 #[.val (.ref sb), .val (.int (0 : Int32)), .val (.int (Int32.ofNat cs.length)), .val (.int (Int32.ofNat (cs.length + 1)))] [(.int (0 : Int32))]
  -- at pc 21: pc 21: ifCond .ifCond .eq 16 stack [(.int (0 : Int32))]
  -- (0 : Int32) = (0 : Int32)
  refine Go.ifT 37 d_apIA_21 (teq (rfl)).1 (by decide) (by decide) ?_
  refine Go.iloadN d_apIA_37 rfl ?_
  refine Go.iloadN d_apIA_38 rfl ?_
  refine Go.iloadN d_apIA_39 rfl ?_
  refine Go.aloadN d_apIA_40 rfl rfl ?_
  refine Go.getF (wd_98 hw) Via.refl F_sb_value d_apIA_41 ?_
  -- at pc 44: pc 44: invokestatic .invokestatic 251 stack [(.ref va), (.int (Int32.ofNat (cs.length + 1))), (.int (Int32.ofNat cs.length)), (.int (0 : Int32))]
  refine Go.callS (I' := IN) (hI := nQ) [(.int (0 : Int32)), (.int (Int32.ofNat cs.length)), (.int (Int32.ofNat (cs.length + 1))), (.ref va)] [] (ct_gcu3 l Z a0 hw n0 va kv cs _ O S_ad S_hi S_lo vf hvf S_f dg kd vd S_dg V_dg hd0 g_va hl V_va) (wd_272 hw) (wd_273 hw) (wd_18 hw) (wd_274 hw) (by decide) pd_31 rfl rfl rfl (Nat.le_of_ble_eq_true rfl) (Nat.le_of_ble_eq_true rfl) (Nat.le_of_ble_eq_true rfl) (Nat.le_of_ble_eq_true rfl) d_apIA_44 ?_
  rintro _ hp99 ⟨⟨p, rfl⟩, K99, V1⟩
  replace O := O.keep K99 (allS g_va (all0))
  replace E_sb := E_sb.keep K99
  replace F_sb_value := F_sb_value.keep K99 (ninS nsv nin0)
  replace F_sb_coder := F_sb_coder.keep K99 (ninS nsv nin0)
  replace F_sb_count := F_sb_count.keep K99 (ninS nsv nin0)
  replace F_sb_maybeLatin1 := F_sb_maybeLatin1.keep K99 (ninS nsv nin0)
  replace KK : Keep h0 hp99 [sb, va] := KK.trans K99 (allS (Or.inl (by simp)) (all0))
  show GM_apIA l Z n0 (fun v h => v = some (.ref sb) ∧ Keep h0 h [sb, va] ∧ Sbu Z h sb va kv (cs ++ [48])) hp99 0 0 47 #[.val (.ref sb), .val (.int (0 : Int32)), .val (.int (Int32.ofNat cs.length)), .val (.int (Int32.ofNat (cs.length + 1)))] [(.int p)]
  refine Go.pop d_apIA_47 rfl ?_
  refine Go.aloadN d_apIA_48 rfl rfl ?_
  refine Go.iloadN d_apIA_49 rfl ?_
  refine Go.putF (I' := IN) (hI := nI) (wd_122 hw) Via.refl F_sb_count E_sb (Or.inl (wd_123 hw)) (wd_85 hw) (ty := .int) (by decide) rfl rfl g_sb d_apIA_50 fun hp100 W100 => ?_
  have K100 := Keep.of_wr W100
  replace F_sb_value := F_sb_value.other W100 (Or.inr (slot_ne (Or.inl (wd_99 hw)) (Or.inl (wd_123 hw)) (by decide) (t := (.array .byte)) (t' := .int) (by decide) (by decide)))
  replace F_sb_coder := F_sb_coder.other W100 (Or.inr (slot_ne (Or.inl (wd_101 hw)) (Or.inl (wd_123 hw)) (by decide) (t := .byte) (t' := .int) (by decide) (by decide)))
  replace F_sb_count := F_sb_count.same W100
  replace F_sb_maybeLatin1 := F_sb_maybeLatin1.other W100 (Or.inr (slot_ne (Or.inl (wd_271 hw)) (Or.inl (wd_123 hw)) (by decide) (t := .boolean) (t' := .int) (by decide) (by decide)))
  replace O := O.keep K100 (allS g_sb (all0))
  replace E_sb := E_sb.keep K100
  replace V1 := V1.keep K100 (ninS (Ne.symm nsv) nin0)
  replace KK : Keep h0 hp100 [sb, va] := KK.trans K100 (allS (Or.inl (by simp)) (all0))
  refine Go.aloadN d_apIA_53 rfl rfl ?_
  -- at pc 54: pc 54: areturn .areturn stack [(.ref sb)]
  exact Go.areturn d_apIA_54 rfl rfl rfl (by decide) (by decide) ⟨rfl, KK, E_sb, F_sb_value, F_sb_coder, by rw [List.length_append]; exact F_sb_count, V1, F_sb_maybeLatin1⟩
theorem own_b48 : (([48] : List Int32).map own_b) = [48] := by decide
theorem Lat.c48 : Lat [48] := Lat.cons (by decide) Lat.nil
theorem ct_apIC (l : Launch) (Z : State) (a0 : Array Value) (hw : ∀ d ∈ tables_1, d.before a0 Z = true) (n0 : Nat) (sb va : Addr) (kv : ClassId) (cs : List Int32) (h0 : Heap) (O : Old Z n0 h0) (z : Int32) (S_cs : Sta Z Z.heap "java/lang/String" "COMPACT_STRINGS" "Z" (.int z)) (hcs : ¬ z = 0) (S_ad : Sta Z Z.heap "java/lang/StringUTF16" "$assertionsDisabled" "Z" (.int (1 : Int32))) (S_hi : Sta Z Z.heap "java/lang/StringUTF16" "HI_BYTE_SHIFT" "I" (.int (0 : Int32))) (S_lo : Sta Z Z.heap "java/lang/StringUTF16" "LO_BYTE_SHIFT" "I" (.int (8 : Int32))) (vf : Value) (hvf : vf.isRef = true) (S_f : Sta Z Z.heap "jdk/internal/util/Preconditions" "SIOOBE_FORMATTER" "Ljava/util/function/BiFunction;" vf) (dg : Addr) (kd : ClassId) (vd : List Value) (S_dg : Sta Z Z.heap "java/lang/Integer" "DigitOnes" "[B" (.ref dg)) (V_dg : Arv Z Z.heap dg kd .byte (100 : Int32) vd (.int (0 : Int32))) (hd0 : vd.getD 0 (.int (0 : Int32)) = .int (48 : Int32)) (g_sb : n0 ≤ sb) (g_va : n0 ≤ va) (nsv : sb ≠ va) (S : Cbd Z h0 sb va kv cs) (hl : cs.length + 1 ≤ 16) :
    Ct l Z n0 "java/lang/AbstractStringBuilder" "append" "(I)Ljava/lang/AbstractStringBuilder;" [] jdk_68_method_32_code 4 (some (.object "java/lang/AbstractStringBuilder")) R_apIA #[.ref sb, .int (0 : Int32)] h0 (fun v h => v = some (.ref sb) ∧ Keep h0 h [sb, va] ∧ Cbd Z h sb va kv (cs ++ [48])) := by
  rcases S with ⟨hA, S⟩ | ⟨hA, S⟩
  · exact (ct_apIA l Z a0 hw n0 sb va kv (cs.map own_b) h0 O z S_cs hcs dg kd vd S_dg V_dg hd0 g_sb g_va nsv S (by rw [List.length_map]; exact hl)).mono fun v h ⟨q1, q2, q3⟩ => ⟨q1, q2, Or.inl ⟨hA.app Lat.c48, by rw [List.map_append, own_b48]; exact q3⟩⟩
  · exact (ct_apIAu l Z a0 hw n0 sb va kv cs h0 O z S_cs hcs S_ad S_hi S_lo vf hvf S_f dg kd vd S_dg V_dg hd0 g_sb g_va nsv S hl).mono fun v h ⟨q1, q2, q3⟩ => ⟨q1, q2, Or.inr ⟨fun q => hA q.left, q3⟩⟩
theorem d_apI_0 : decode jdk_67_method_15_code 0 = .ok (.aload_n 0, 1) := by decide +kernel
theorem d_apI_1 : decode jdk_67_method_15_code 1 = .ok (.iload_n 1, 1) := by decide +kernel
theorem d_apI_2 : decode jdk_67_method_15_code 2 = .ok (.invokespecial 53, 3) := by decide +kernel
theorem d_apI_5 : decode jdk_67_method_15_code 5 = .ok (.pop, 1) := by decide +kernel
theorem d_apI_6 : decode jdk_67_method_15_code 6 = .ok (.aload_n 0, 1) := by decide +kernel
theorem d_apI_7 : decode jdk_67_method_15_code 7 = .ok (.areturn, 1) := by decide +kernel
abbrev R_apI : Room := ({ frames := 5, cells := 0, slots := 0, locals := 80 } : Room)
abbrev GM_apI (l : Launch) (Z : State) (n0 : Nat) (Q : Option Value → Heap → Prop) (h : Heap) (cells slots pc : Nat) (Ls : Array Slot) (st : List Value) : Prop := Go l Z n0 R_apI "java/lang/StringBuilder" "append" jdk_67_method_15_code 2 (some (.object "java/lang/StringBuilder")) IN (FN n0 R_apI Q) h cells slots pc Ls st
abbrev GW_apI (l : Launch) (Z : State) (EL : List (String × Nat)) (s₀ : State) (n0 : Nat) (Q : Option Value → Heap → Prop) (lo : Nat) (Sf : List Addr) (h : Heap) (cells slots pc : Nat) (Ls : Array Slot) (st : List Value) : Prop := Go l Z n0 R_apI "java/lang/StringBuilder" "append" jdk_67_method_15_code 2 (some (.object "java/lang/StringBuilder")) (IW Z EL s₀ lo Sf) (FW Z EL s₀ n0 R_apI Q) h cells slots pc Ls st
theorem pf_apI : plainFor (⟨"java/lang/StringBuilder", "append", "(I)Ljava/lang/StringBuilder;"⟩ : MethodName) = true := plainFor_of_name (by first | (simp [plainName, overriddenIn]; done) | decide +kernel)
theorem ct_apI (l : Launch) (Z : State) (a0 : Array Value) (hw : ∀ d ∈ tables_1, d.before a0 Z = true) (n0 : Nat) (sb va : Addr) (kv : ClassId) (cs : List Int32) (h0 : Heap) (O : Old Z n0 h0) (z : Int32) (S_cs : Sta Z Z.heap "java/lang/String" "COMPACT_STRINGS" "Z" (.int z)) (hcs : ¬ z = 0) (S_ad : Sta Z Z.heap "java/lang/StringUTF16" "$assertionsDisabled" "Z" (.int (1 : Int32))) (S_hi : Sta Z Z.heap "java/lang/StringUTF16" "HI_BYTE_SHIFT" "I" (.int (0 : Int32))) (S_lo : Sta Z Z.heap "java/lang/StringUTF16" "LO_BYTE_SHIFT" "I" (.int (8 : Int32))) (vf : Value) (hvf : vf.isRef = true) (S_f : Sta Z Z.heap "jdk/internal/util/Preconditions" "SIOOBE_FORMATTER" "Ljava/util/function/BiFunction;" vf) (dg : Addr) (kd : ClassId) (vd : List Value) (S_dg : Sta Z Z.heap "java/lang/Integer" "DigitOnes" "[B" (.ref dg)) (V_dg : Arv Z Z.heap dg kd .byte (100 : Int32) vd (.int (0 : Int32))) (hd0 : vd.getD 0 (.int (0 : Int32)) = .int (48 : Int32)) (g_sb : n0 ≤ sb) (g_va : n0 ≤ va) (nsv : sb ≠ va) (S : Cbd Z h0 sb va kv cs) (hl : cs.length + 1 ≤ 16) :
    Ct l Z n0 "java/lang/StringBuilder" "append" "(I)Ljava/lang/StringBuilder;" [] jdk_67_method_15_code 2 (some (.object "java/lang/StringBuilder")) R_apI #[.ref sb, .int (0 : Int32)] h0 (fun v h => v = some (.ref sb) ∧ Keep h0 h [sb, va] ∧ Cbd Z h sb va kv (cs ++ [48])) := by
  have E_sb := S.exa
  refine Ct.of_go pf_apI (Ls := #[.val (.ref sb), .val (.int (0 : Int32))]) (fun m => by first | rfl | (simp [entryFrame, mkF, argsToLocals, Value.category]; done)) ?_
  show GM_apI l Z n0 (fun v h => v = some (.ref sb) ∧ Keep h0 h [sb, va] ∧ Cbd Z h sb va kv (cs ++ [48])) h0 0 0 0 #[.val (.ref sb), .val (.int (0 : Int32))] []
  refine Go.aloadN d_apI_0 rfl rfl ?_
  refine Go.iloadN d_apI_1 rfl ?_
  -- at pc 2: pc 2: invokespecial .invokespecial 53 stack [(.int (0 : Int32)), (.ref sb)]
  refine Go.callSup (I' := IN) (hI := nQ) sb [(.int (0 : Int32))] [] (ct_apIC l Z a0 hw n0 sb va kv cs _ O z S_cs hcs S_ad S_hi S_lo vf hvf S_f dg kd vd S_dg V_dg hd0 g_sb g_va nsv S hl) E_sb (show Ord Z "java/lang/AbstractStringBuilder" from Ord.sel (wd_127 hw)) (wd_157 hw) (wd_158 hw) (wd_109 hw) (wd_94 hw) (wd_160 hw) (by decide) (by decide) pd_32 rfl rfl rfl (Nat.le_of_ble_eq_true rfl) (Nat.le_of_ble_eq_true rfl) (Nat.le_of_ble_eq_true rfl) (Nat.le_of_ble_eq_true rfl) d_apI_2 ?_
  rintro _ hp101 ⟨rfl, K1, S1⟩
  show GM_apI l Z n0 (fun v h => v = some (.ref sb) ∧ Keep h0 h [sb, va] ∧ Cbd Z h sb va kv (cs ++ [48])) hp101 0 0 5 #[.val (.ref sb), .val (.int (0 : Int32))] [(.ref sb)]
  refine Go.pop d_apI_5 rfl ?_
  refine Go.aloadN d_apI_6 rfl rfl ?_
  -- at pc 7: pc 7: areturn .areturn stack [(.ref sb)]
  exact Go.areturn d_apI_7 rfl rfl rfl (by decide) (by decide) ⟨rfl, K1, S1⟩
theorem own_leN {k N : Nat} (h : k ≤ N) (hN : N ≤ 32) : ¬ (Int32.ofNat N) - 0 < Int32.ofNat k := by
  rw [Int32.sub_zero, Int32.lt_iff_toInt_lt, own_ofInt (by omega), own_ofInt (by omega)]; omega
theorem ct_corBN (l : Launch) (Z : State) (a0 : Array Value) (hw : ∀ d ∈ tables_1, d.before a0 Z = true) (n0 : Nat) (va : Addr) (kv : ClassId) (bs : List Int32) (N : Nat) (h0 : Heap) (hz : n0 ≤ h0.size) (V_va : Arv Z h0 va kv .byte (Int32.ofNat N) (bs.map Value.int) (.int (0 : Int32))) (hl : bs.length < N) (hN : N ≤ 32) :
    Ct l Z n0 "java/util/Arrays" "copyOfRangeByte" "([BII)[B" [] jdk_65_method_133_code 5 (some (.array .byte)) R_corB #[.ref va, .int (0 : Int32), .int (Int32.ofNat bs.length)] h0 (fun v h => ∃ (b : Addr) (k : ClassId), v = some (.ref b) ∧ n0 ≤ b ∧ h0.size ≤ b ∧ Keep h0 h [] ∧ Arv Z h b k .byte (Int32.ofNat bs.length) (bs.map Value.int) (.int (0 : Int32))) := by
  have hn : ((Int32.ofNat bs.length) - (0 : Int32)) = (Int32.ofNat bs.length) := Int32.sub_zero _
  refine Ct.of_go pf_corB (Ls := #[.val (.ref va), .val (.int (0 : Int32)), .val (.int (Int32.ofNat bs.length)), .unset, .unset]) (fun m => by first | rfl | (simp [entryFrame, mkF, argsToLocals, Value.category]; done)) ?_
  show GM_corB l Z n0 (fun v h => ∃ (b : Addr) (k : ClassId), v = some (.ref b) ∧ n0 ≤ b ∧ h0.size ≤ b ∧ Keep h0 h [] ∧ Arv Z h b k .byte (Int32.ofNat bs.length) (bs.map Value.int) (.int (0 : Int32))) h0 0 0 0 #[.val (.ref va), .val (.int (0 : Int32)), .val (.int (Int32.ofNat bs.length)), .unset, .unset] []
  have KK : Keep h0 h0 [] := Keep.refl _ _
  refine Go.iloadN d_corB_0 rfl ?_
  refine Go.iloadN d_corB_1 rfl ?_
  -- at pc 2: pc 2: invokestatic .invokestatic 343 stack [(.int (Int32.ofNat bs.length)), (.int (0 : Int32))]
  refine Go.callS (I' := IN) (hI := nQ) [(.int (0 : Int32)), (.int (Int32.ofNat bs.length))] [] (ct_chkl l Z a0 hw n0 0 (Int32.ofNat bs.length) _ (own_nneg (by omega))) (wd_208 hw) (wd_209 hw) (wd_203 hw) (wd_210 hw) (by decide) pd_7 rfl rfl rfl (Nat.le_of_ble_eq_true rfl) (Nat.le_of_ble_eq_true rfl) (Nat.le_of_ble_eq_true rfl) (Nat.le_of_ble_eq_true rfl) d_corB_2 ?_
  rintro _ _ ⟨rfl, rfl⟩
  show GM_corB l Z n0 (fun v h => ∃ (b : Addr) (k : ClassId), v = some (.ref b) ∧ n0 ≤ b ∧ h0.size ≤ b ∧ Keep h0 h [] ∧ Arv Z h b k .byte (Int32.ofNat bs.length) (bs.map Value.int) (.int (0 : Int32))) h0 0 0 5 #[.val (.ref va), .val (.int (0 : Int32)), .val (.int (Int32.ofNat bs.length)), .unset, .unset] []
  refine Go.iloadN d_corB_5 rfl ?_
  refine Go.iloadN d_corB_6 rfl ?_
  refine Go.isub d_corB_7 ?_
  rw [show ((Int32.ofNat bs.length) - (0 : Int32)) = (Int32.ofNat bs.length) from hn]
  refine Go.istoreN (Ls' := #[.val (.ref va), .val (.int (0 : Int32)), .val (.int (Int32.ofNat bs.length)), .val (.int (Int32.ofNat bs.length)), .unset]) d_corB_8 rfl ?_
  refine Go.iloadN d_corB_9 rfl ?_
  refine Go.newP (I' := IN) (hI := nE) .byte (wd_20 hw) rfl d_corB_10 (own_nneg (by omega)) 32 (by rw [own_clamp (by omega)]; omega) (by decide) (by decide) (by decide) fun hp103 b k_b e_b X103 V_b => ?_
  have K103 : Keep h0 hp103 [] := (Keep.refl _ _).ext X103
  have g_b : n0 ≤ b := e_b ▸ hz
  have s_b : h0.size ≤ b := e_b ▸ KK.1
  have ne_va_b : va ≠ b := Nat.ne_of_lt (e_b ▸ V_va.lt)
  replace V_va := V_va.keep K103 nin0
  replace hz : n0 ≤ hp103.size := Nat.le_trans hz K103.1
  replace KK : Keep h0 hp103 [] := KK.trans K103 (all0)
  refine Go.astore (Ls' := #[.val (.ref va), .val (.int (0 : Int32)), .val (.int (Int32.ofNat bs.length)), .val (.int (Int32.ofNat bs.length)), .val (.ref b)]) d_corB_12 rfl rfl ?_
  refine Go.aloadN d_corB_14 rfl rfl ?_
  refine Go.iloadN d_corB_15 rfl ?_
  refine Go.aload d_corB_16 rfl rfl ?_
  refine Go.iconst 0 d_corB_18 rfl ?_
  refine Go.aloadN d_corB_19 rfl rfl ?_
  refine Go.arraylength V_va d_corB_20 ?_
  refine Go.iloadN d_corB_21 rfl ?_
  refine Go.isub d_corB_22 ?_
  refine Go.iloadN d_corB_23 rfl ?_
  -- at pc 24: pc 24: invokestatic .invokestatic 304 stack [(.int (Int32.ofNat bs.length)), (.int ((Int32.ofNat N) - (0 : Int32))), (.int (0 : Int32)), (.ref b), (.int (0 : Int32)), (.ref va)]
  refine Go.callS (I' := IN) (hI := nQ) [(.int ((Int32.ofNat N) - (0 : Int32))), (.int (Int32.ofNat bs.length))] [(.int (0 : Int32)), (.ref b), (.int (0 : Int32)), (.ref va)] (ct_mmin l Z a0 hw n0 ((Int32.ofNat N) - (0 : Int32)) (Int32.ofNat bs.length) _ (own_leN (by omega) hN)) (wd_211 hw) (wd_212 hw) (wd_213 hw) (wd_214 hw) (by decide) pd_8 rfl rfl rfl (Nat.le_of_ble_eq_true rfl) (Nat.le_of_ble_eq_true rfl) (Nat.le_of_ble_eq_true rfl) (Nat.le_of_ble_eq_true rfl) d_corB_24 ?_
  rintro _ _ ⟨rfl, rfl⟩
  show GM_corB l Z n0 (fun v h => ∃ (b : Addr) (k : ClassId), v = some (.ref b) ∧ n0 ≤ b ∧ h0.size ≤ b ∧ Keep h0 h [] ∧ Arv Z h b k .byte (Int32.ofNat bs.length) (bs.map Value.int) (.int (0 : Int32))) hp103 1 32 27 #[.val (.ref va), .val (.int (0 : Int32)), .val (.int (Int32.ofNat bs.length)), .val (.int (Int32.ofNat bs.length)), .val (.ref b)] [(.int (Int32.ofNat bs.length)), (.int (0 : Int32)), (.ref b), (.int (0 : Int32)), (.ref va)]
  refine Go.copyB (I' := IN) (hI := nI) (bs.map Value.int) V_va (V_b.pad (pad_rep [] _ bs.length)) rfl (wd_215 hw) (wd_148 hw) (wd_146 hw) (wd_147 hw) (by decide) (by decide) (own_nneg (by omega)) (by rw [own_clamp (n := bs.length) (by omega), own_clamp (n := N) (by omega)]; show 0 + bs.length ≤ N; omega) (by rw [own_clamp (n := bs.length) (by omega)]; show 0 + bs.length ≤ bs.length; omega) (by rw [own_clamp (n := bs.length) (by omega)]; exact own_range (by simp)) (by rw [own_clamp (n := bs.length) (by omega)]; simp) g_b d_corB_27 rfl (by decide) (by decide) fun h1 K1 V1 => ?_
  rw [own_clamp (n := bs.length) (by omega)] at V1
  have V2 : Arv Z h1 b k_b .byte (Int32.ofNat bs.length) (bs.map Value.int) (.int (0 : Int32)) := by have W := V1; simp at W; exact W
  replace KK : Keep h0 h1 [] := KK.trans K1 (allS (Or.inr s_b) all0)
  show GM_corB l Z n0 (fun v h => ∃ (b : Addr) (k : ClassId), v = some (.ref b) ∧ n0 ≤ b ∧ h0.size ≤ b ∧ Keep h0 h [] ∧ Arv Z h b k .byte (Int32.ofNat bs.length) (bs.map Value.int) (.int (0 : Int32))) h1 1 32 30 #[.val (.ref va), .val (.int (0 : Int32)), .val (.int (Int32.ofNat bs.length)), .val (.int (Int32.ofNat bs.length)), .val (.ref b)] []
  refine Go.aload d_corB_30 rfl rfl ?_
  -- at pc 32: pc 32: areturn .areturn stack [(.ref b)]
  exact Go.areturn d_corB_32 rfl rfl rfl (by decide) (by decide) ⟨b, k_b, rfl, g_b, s_b, KK, V2⟩
theorem ct_corAN (l : Launch) (Z : State) (a0 : Array Value) (hw : ∀ d ∈ tables_1, d.before a0 Z = true) (n0 : Nat) (va : Addr) (kv : ClassId) (bs : List Int32) (N : Nat) (h0 : Heap) (hz : n0 ≤ h0.size) (V_va : Arv Z h0 va kv .byte (Int32.ofNat N) (bs.map Value.int) (.int (0 : Int32))) (hl : bs.length < N) (hN : N ≤ 32) :
    Ct l Z n0 "java/util/Arrays" "copyOfRange" "([BII)[B" [] jdk_65_method_132_code 3 (some (.array .byte)) R_corA #[.ref va, .int (0 : Int32), .int (Int32.ofNat bs.length)] h0 (fun v h => ∃ (b : Addr) (k : ClassId), v = some (.ref b) ∧ n0 ≤ b ∧ h0.size ≤ b ∧ Keep h0 h [] ∧ Arv Z h b k .byte (Int32.ofNat bs.length) (bs.map Value.int) (.int (0 : Int32))) := by
  refine Ct.of_go pf_corA (Ls := #[.val (.ref va), .val (.int (0 : Int32)), .val (.int (Int32.ofNat bs.length))]) (fun m => by first | rfl | (simp [entryFrame, mkF, argsToLocals, Value.category]; done)) ?_
  show GM_corA l Z n0 (fun v h => ∃ (b : Addr) (k : ClassId), v = some (.ref b) ∧ n0 ≤ b ∧ h0.size ≤ b ∧ Keep h0 h [] ∧ Arv Z h b k .byte (Int32.ofNat bs.length) (bs.map Value.int) (.int (0 : Int32))) h0 0 0 0 #[.val (.ref va), .val (.int (0 : Int32)), .val (.int (Int32.ofNat bs.length))] []
  refine Go.iloadN d_corA_0 rfl ?_
  -- at pc 1: pc 1: ifCond .ifCond .ne 9 stack [(.int (0 : Int32))]
  -- (0 : Int32) = (0 : Int32)
  refine Go.ifF d_corA_1 (teq (rfl)).2 ?_
  refine Go.iloadN d_corA_4 rfl ?_
  refine Go.aloadN d_corA_5 rfl rfl ?_
  refine Go.arraylength V_va d_corA_6 ?_
  -- at pc 7: pc 7: if_icmp .if_icmp .eq 10 stack [(.int (Int32.ofNat N)), (.int (Int32.ofNat bs.length))]
  -- not: (Int32.ofNat bs.length) = (Int32.ofNat N)
  refine Go.icF d_corA_7 (feq ((fun q => by have := (own_eqn (n := bs.length) (m := N) (by omega) (by omega)).mp q; omega))).1 ?_
  refine Go.aloadN d_corA_10 rfl rfl ?_
  refine Go.iloadN d_corA_11 rfl ?_
  refine Go.iloadN d_corA_12 rfl ?_
  -- at pc 13: pc 13: invokestatic .invokestatic 339 stack [(.int (Int32.ofNat bs.length)), (.int (0 : Int32)), (.ref va)]
  refine Go.callS (I' := IN) (hI := nQ) [(.ref va), (.int (0 : Int32)), (.int (Int32.ofNat bs.length))] [] (ct_corBN l Z a0 hw n0 va kv bs N _ hz V_va hl hN) (wd_205 hw) (wd_206 hw) (wd_203 hw) (wd_207 hw) (by decide) pd_9 rfl rfl rfl (Nat.le_of_ble_eq_true rfl) (Nat.le_of_ble_eq_true rfl) (Nat.le_of_ble_eq_true rfl) (Nat.le_of_ble_eq_true rfl) d_corA_13 ?_
  rintro _ hp105 ⟨b, k, rfl, q1, q2, q3, q4⟩
  show GM_corA l Z n0 (fun v h => ∃ (b : Addr) (k : ClassId), v = some (.ref b) ∧ n0 ≤ b ∧ h0.size ≤ b ∧ Keep h0 h [] ∧ Arv Z h b k .byte (Int32.ofNat bs.length) (bs.map Value.int) (.int (0 : Int32))) hp105 1 32 16 #[.val (.ref va), .val (.int (0 : Int32)), .val (.int (Int32.ofNat bs.length))] [(.ref b)]
  -- at pc 16: pc 16: areturn .areturn stack [(.ref b)]
  exact Go.areturn d_corA_16 rfl rfl rfl (by decide) (by decide) ⟨b, k, rfl, q1, q2, q3, q4⟩
set_option maxHeartbeats 1000000 in
theorem ct_sinAu (l : Launch) (Z : State) (a0 : Array Value) (hw : ∀ d ∈ tables_1, d.before a0 Z = true) (n0 : Nat) (x sb va : Addr) (kv : ClassId) (cs : List Int32) (h0 : Heap) (hz : n0 ≤ h0.size) (O : Old Z n0 h0) (z : Int32) (S_cs : Sta Z Z.heap "java/lang/String" "COMPACT_STRINGS" "Z" (.int z)) (hcs : ¬ z = 0) (g_x : n0 ≤ x) (E_x : Exa Z h0 x "java/lang/String") (F_x_value : Fld Z h0 x "java/lang/String" "value" "[B" .null) (F_x_coder : Fld Z h0 x "java/lang/String" "coder" "B" (.int (0 : Int32))) (S : Sbu Z h0 sb va kv cs) (nxs : x ≠ sb) (nxv : x ≠ va) (hl : cs.length ≤ 15) :
    Ct l Z n0 "java/lang/String" "<init>" "(Ljava/lang/AbstractStringBuilder;Ljava/lang/Void;)V" [] jdk_42_method_150_code 5 none R_sinA #[.ref x, .ref sb, .null] h0 (fun v h => v = none ∧ Keep h0 h [x] ∧ ∃ (t : Addr) (kt : ClassId), n0 ≤ t ∧ h0.size ≤ t ∧ Byu Z h x t kt cs) := by
  obtain ⟨E_sb, F_sb_value, F_sb_coder, F_sb_count, V_va, F_sb_maybeLatin1⟩ := S
  refine Ct.of_go pf_sinA (Ls := #[.val (.ref x), .val (.ref sb), .val .null, .unset, .unset]) (fun m => by first | rfl | (simp [entryFrame, mkF, argsToLocals, Value.category]; done)) ?_
  show GM_sinA l Z n0 (fun v h => v = none ∧ Keep h0 h [x] ∧ ∃ (t : Addr) (kt : ClassId), n0 ≤ t ∧ h0.size ≤ t ∧ Byu Z h x t kt cs) h0 0 0 0 #[.val (.ref x), .val (.ref sb), .val .null, .unset, .unset] []
  have KK : Keep h0 h0 [x] := Keep.refl _ _
  refine Go.aloadN d_sinA_0 rfl rfl ?_
  refine Go.initO (wd_12 hw) (wd_13 hw) (wd_14 hw) d_sinA_1 rfl (by decide) (Nat.le_of_ble_eq_true rfl) ?_
  refine Go.aloadN d_sinA_4 rfl rfl ?_
  -- at pc 5: pc 5: invokevirtual .invokevirtual 552 stack [(.ref sb)]
  refine Go.callV (I' := IN) (hI := nQ) sb [] [] (ct_getv l Z a0 hw n0 sb va _ F_sb_value) E_sb (wd_187 hw) (wd_188 hw) (nf_sel (wd_190 hw)) (wd_190 hw) (wd_189 hw) (wd_94 hw) (wd_191 hw) (by decide) pd_10 rfl rfl rfl (Nat.le_of_ble_eq_true rfl) (Nat.le_of_ble_eq_true rfl) (Nat.le_of_ble_eq_true rfl) (Nat.le_of_ble_eq_true rfl) d_sinA_5 ?_
  rintro _ _ ⟨rfl, rfl⟩
  show GM_sinA l Z n0 (fun v h => v = none ∧ Keep h0 h [x] ∧ ∃ (t : Addr) (kt : ClassId), n0 ≤ t ∧ h0.size ≤ t ∧ Byu Z h x t kt cs) h0 0 0 8 #[.val (.ref x), .val (.ref sb), .val .null, .unset, .unset] [(.ref va)]
  refine Go.astoreN (Ls' := #[.val (.ref x), .val (.ref sb), .val .null, .val (.ref va), .unset]) d_sinA_8 rfl rfl ?_
  refine Go.aloadN d_sinA_9 rfl rfl ?_
  -- at pc 10: pc 10: invokevirtual .invokevirtual 549 stack [(.ref sb)]
  refine Go.callV (I' := IN) (hI := nQ) sb [] [] (ct_lenB l Z a0 hw n0 sb (Int32.ofNat cs.length) _ E_sb F_sb_count) E_sb (wd_192 hw) (wd_193 hw) (Ord.nf (show Ord Z "java/lang/AbstractStringBuilder" from Ord.sel (wd_127 hw))) (wd_195 hw) (wd_196 hw) (wd_86 hw) (wd_197 hw) (by decide) pd_4 rfl rfl rfl (Nat.le_of_ble_eq_true rfl) (Nat.le_of_ble_eq_true rfl) (Nat.le_of_ble_eq_true rfl) (Nat.le_of_ble_eq_true rfl) d_sinA_10 ?_
  rintro _ _ ⟨rfl, rfl⟩
  show GM_sinA l Z n0 (fun v h => v = none ∧ Keep h0 h [x] ∧ ∃ (t : Addr) (kt : ClassId), n0 ≤ t ∧ h0.size ≤ t ∧ Byu Z h x t kt cs) h0 0 0 13 #[.val (.ref x), .val (.ref sb), .val .null, .val (.ref va), .unset] [(.int (Int32.ofNat cs.length))]
  refine Go.istore (Ls' := #[.val (.ref x), .val (.ref sb), .val .null, .val (.ref va), .val (.int (Int32.ofNat cs.length))]) d_sinA_13 rfl ?_
  refine Go.aloadN d_sinA_15 rfl rfl ?_
  -- at pc 16: pc 16: invokevirtual .invokevirtual 1047 stack [(.ref sb)]
  refine Go.callV (I' := IN) (hI := nQ) sb [] [] (ct_isL0 l Z a0 hw n0 sb _ O z S_cs hcs F_sb_coder) E_sb (wd_200 hw) (wd_166 hw) (nf_sel (wd_168 hw)) (wd_168 hw) (wd_167 hw) (wd_94 hw) (wd_169 hw) (by decide) pd_11 rfl rfl rfl (Nat.le_of_ble_eq_true rfl) (Nat.le_of_ble_eq_true rfl) (Nat.le_of_ble_eq_true rfl) (Nat.le_of_ble_eq_true rfl) d_sinA_16 ?_
  rintro _ _ ⟨rfl, rfl⟩
  show GM_sinA l Z n0 (fun v h => v = none ∧ Keep h0 h [x] ∧ ∃ (t : Addr) (kt : ClassId), n0 ≤ t ∧ h0.size ≤ t ∧ Byu Z h x t kt cs) h0 0 0 19 #[.val (.ref x), .val (.ref sb), .val .null, .val (.ref va), .val (.int (Int32.ofNat cs.length))] [(.int (0 : Int32))]
  -- at pc 19: pc 19: ifCond .ifCond .eq 22 stack [(.int (0 : Int32))]
  -- (0 : Int32) = (0 : Int32)
  refine Go.ifT 41 d_sinA_19 (teq (rfl)).1 (by decide) (by decide) ?_
  refine Go.getS (wd_15 hw) Via.refl (S_cs.ext O.2) d_sinA_41 ?_
  -- at pc 44: pc 44: ifCond .ifCond .eq 35 stack [(.int z)]
  -- not: z = (0 : Int32)
  refine Go.ifF d_sinA_44 (feq (hcs)).1 ?_
  refine Go.aloadN d_sinA_47 rfl rfl ?_
  refine Go.getF (wd_270 hw) Via.refl F_sb_maybeLatin1 d_sinA_48 ?_
  -- at pc 51: pc 51: ifCond .ifCond .eq 28 stack [(.int (0 : Int32))]
  -- (0 : Int32) = (0 : Int32)
  refine Go.ifT 79 d_sinA_51 (teq (rfl)).1 (by decide) (by decide) ?_
  refine Go.aloadN d_sinA_79 rfl rfl ?_
  refine Go.iconst 1 d_sinA_80 rfl ?_
  refine Go.putFN (I' := IN) (hI := nI) (v' := (.int (1 : Int32))) (wd_27 hw) Via.refl F_x_coder E_x (Or.inr ⟨(wd_28 hw), rfl, rfl⟩) (wd_2 hw) (ty := .byte) (by decide) rfl rfl g_x d_sinA_81 fun hp109 W109 => ?_
  have K109 := Keep.of_wr W109
  replace F_x_value := F_x_value.other W109 (Or.inr (slot_ne (Or.inr (wd_30 hw)) (Or.inr (wd_28 hw)) (by decide) (t := (.array .byte)) (t' := .byte) (by decide) (by decide)))
  replace F_x_coder := F_x_coder.same W109
  replace O := O.keep K109 (allS g_x (all0))
  replace E_x := E_x.keep K109
  replace E_sb := E_sb.keep K109
  replace F_sb_count := F_sb_count.keep K109 (ninS (Ne.symm nxs) nin0)
  replace F_sb_maybeLatin1 := F_sb_maybeLatin1.keep K109 (ninS (Ne.symm nxs) nin0)
  replace V_va := V_va.keep K109 (ninS (Ne.symm nxv) nin0)
  replace hz : n0 ≤ hp109.size := Nat.le_trans hz K109.1
  replace KK : Keep h0 hp109 [x] := KK.trans K109 (allS (Or.inl (by simp)) (all0))
  refine Go.aloadN d_sinA_84 rfl rfl ?_
  refine Go.aloadN d_sinA_85 rfl rfl ?_
  refine Go.iconst 0 d_sinA_86 rfl ?_
  refine Go.iload d_sinA_87 rfl ?_
  refine Go.iconst 1 d_sinA_89 rfl ?_
  refine Go.ishl d_sinA_90 ?_
  rw [show ((Int32.ofNat cs.length) <<< ((1 : Int32) &&& 31)) = (Int32.ofNat (enc2 cs).length) from (by rw [enc2_len]; exact own_shl1 _)]
  have KK1 := KK
  have lt_x := E_x.lt
  refine Go.callS (I' := IN) (hI := nQ) [(.ref va), (.int (0 : Int32)), (.int (Int32.ofNat (enc2 cs).length))] [(.ref x)] (ct_corAN l Z a0 hw n0 va kv (enc2 cs) (2 * 16) _ hz V_va (by rw [enc2_len]; omega) (by decide)) (wd_201 hw) (wd_202 hw) (wd_203 hw) (wd_204 hw) (by decide) pd_9 rfl rfl rfl (Nat.le_of_ble_eq_true rfl) (Nat.le_of_ble_eq_true rfl) (Nat.le_of_ble_eq_true rfl) (Nat.le_of_ble_eq_true rfl) d_sinA_91 ?_
  rintro _ hp110 ⟨t, kt, rfl, g_t, sz_t, K110, V_t⟩
  replace O := O.keep K110 (all0)
  replace E_x := E_x.keep K110
  replace F_x_value := F_x_value.keep K110 nin0
  replace F_x_coder := F_x_coder.keep K110 nin0
  replace E_sb := E_sb.keep K110
  replace F_sb_count := F_sb_count.keep K110 nin0
  replace F_sb_maybeLatin1 := F_sb_maybeLatin1.keep K110 nin0
  replace V_va := V_va.keep K110 nin0
  replace hz : n0 ≤ hp110.size := Nat.le_trans hz K110.1
  replace KK : Keep h0 hp110 [x] := KK.trans K110 (all0)
  show GM_sinA l Z n0 (fun v h => v = none ∧ Keep h0 h [x] ∧ ∃ (t : Addr) (kt : ClassId), n0 ≤ t ∧ h0.size ≤ t ∧ Byu Z h x t kt cs) hp110 1 32 94 #[.val (.ref x), .val (.ref sb), .val .null, .val (.ref va), .val (.int (Int32.ofNat cs.length))] [(.ref t), (.ref x)]
  have s_t : h0.size ≤ t := Nat.le_trans KK1.1 sz_t
  have ne_x_t : x ≠ t := (Nat.ne_of_lt (Nat.lt_of_lt_of_le lt_x sz_t))
  refine Go.putF (I' := IN) (hI := nI) (wd_29 hw) Via.refl F_x_value E_x (Or.inr ⟨(wd_30 hw), rfl, rfl⟩) (wd_2 hw) (ty := (.array .byte)) (by decide) rfl rfl g_x d_sinA_94 fun hp111 W111 => ?_
  have K111 := Keep.of_wr W111
  replace F_x_value := F_x_value.same W111
  replace F_x_coder := F_x_coder.other W111 (Or.inr (slot_ne (Or.inr (wd_28 hw)) (Or.inr (wd_30 hw)) (by decide) (t := .byte) (t' := (.array .byte)) (by decide) (by decide)))
  replace O := O.keep K111 (allS g_x (all0))
  replace E_x := E_x.keep K111
  replace E_sb := E_sb.keep K111
  replace F_sb_count := F_sb_count.keep K111 (ninS (Ne.symm nxs) nin0)
  replace F_sb_maybeLatin1 := F_sb_maybeLatin1.keep K111 (ninS (Ne.symm nxs) nin0)
  replace V_va := V_va.keep K111 (ninS (Ne.symm nxv) nin0)
  replace V_t := V_t.keep K111 (ninS (Ne.symm ne_x_t) nin0)
  replace hz : n0 ≤ hp111.size := Nat.le_trans hz K111.1
  replace KK : Keep h0 hp111 [x] := KK.trans K111 (allS (Or.inl (by simp)) (all0))
  -- at pc 97: pc 97: return .return_ stack []
  exact Go.return_ d_sinA_97 rfl (by decide) (by decide) ⟨rfl, KK, t, kt, g_t, s_t, E_x, F_x_coder, F_x_value, by rw [← enc2_len]; exact V_t⟩
theorem ct_sinBu (l : Launch) (Z : State) (a0 : Array Value) (hw : ∀ d ∈ tables_1, d.before a0 Z = true) (n0 : Nat) (x sb va : Addr) (kv : ClassId) (cs : List Int32) (h0 : Heap) (hz : n0 ≤ h0.size) (O : Old Z n0 h0) (z : Int32) (S_cs : Sta Z Z.heap "java/lang/String" "COMPACT_STRINGS" "Z" (.int z)) (hcs : ¬ z = 0) (g_x : n0 ≤ x) (E_x : Exa Z h0 x "java/lang/String") (F_x_value : Fld Z h0 x "java/lang/String" "value" "[B" .null) (F_x_coder : Fld Z h0 x "java/lang/String" "coder" "B" (.int (0 : Int32))) (S : Sbu Z h0 sb va kv cs) (nxs : x ≠ sb) (nxv : x ≠ va) (hl : cs.length ≤ 15) :
    Ct l Z n0 "java/lang/String" "<init>" "(Ljava/lang/StringBuilder;)V" [] jdk_42_method_53_code 2 none R_sinB #[.ref x, .ref sb] h0 (fun v h => v = none ∧ Keep h0 h [x] ∧ ∃ (t : Addr) (kt : ClassId), n0 ≤ t ∧ h0.size ≤ t ∧ Byu Z h x t kt cs) := by
  refine Ct.of_go pf_sinB (Ls := #[.val (.ref x), .val (.ref sb)]) (fun m => by first | rfl | (simp [entryFrame, mkF, argsToLocals, Value.category]; done)) ?_
  show GM_sinB l Z n0 (fun v h => v = none ∧ Keep h0 h [x] ∧ ∃ (t : Addr) (kt : ClassId), n0 ≤ t ∧ h0.size ≤ t ∧ Byu Z h x t kt cs) h0 0 0 0 #[.val (.ref x), .val (.ref sb)] []
  refine Go.aloadN d_sinB_0 rfl rfl ?_
  refine Go.aloadN d_sinB_1 rfl rfl ?_
  refine Go.null d_sinB_2 ?_
  -- at pc 3: pc 3: invokespecial .invokespecial 489 stack [.null, (.ref sb), (.ref x)]
  refine Go.callI (I' := IN) (hI := nQ) x [(.ref sb), .null] [] (ct_sinAu l Z a0 hw n0 x sb va kv cs _ hz O z S_cs hcs g_x E_x F_x_value F_x_coder S nxs nxv hl) (wd_184 hw) (wd_185 hw) (wd_3 hw) (wd_186 hw) (by decide) pd_12 rfl rfl rfl (Nat.le_of_ble_eq_true rfl) (Nat.le_of_ble_eq_true rfl) (Nat.le_of_ble_eq_true rfl) (Nat.le_of_ble_eq_true rfl) d_sinB_3 ?_
  rintro _ hp112 ⟨rfl, K1, t, kt, q1, q2, q3⟩
  show GM_sinB l Z n0 (fun v h => v = none ∧ Keep h0 h [x] ∧ ∃ (t : Addr) (kt : ClassId), n0 ≤ t ∧ h0.size ≤ t ∧ Byu Z h x t kt cs) hp112 1 32 6 #[.val (.ref x), .val (.ref sb)] []
  -- at pc 6: pc 6: return .return_ stack []
  exact Go.return_ d_sinB_6 rfl (by decide) (by decide) ⟨rfl, K1, t, kt, q1, q2, q3⟩
theorem ct_sinBC (l : Launch) (Z : State) (a0 : Array Value) (hw : ∀ d ∈ tables_1, d.before a0 Z = true) (n0 : Nat) (x sb va : Addr) (kv : ClassId) (cs : List Int32) (h0 : Heap) (hz : n0 ≤ h0.size) (O : Old Z n0 h0) (z : Int32) (S_cs : Sta Z Z.heap "java/lang/String" "COMPACT_STRINGS" "Z" (.int z)) (hcs : ¬ z = 0) (g_x : n0 ≤ x) (E_x : Exa Z h0 x "java/lang/String") (F_x_value : Fld Z h0 x "java/lang/String" "value" "[B" .null) (F_x_coder : Fld Z h0 x "java/lang/String" "coder" "B" (.int (0 : Int32))) (S : Cbd Z h0 sb va kv cs) (nxs : x ≠ sb) (nxv : x ≠ va) (hl : cs.length ≤ 15) :
    Ct l Z n0 "java/lang/String" "<init>" "(Ljava/lang/StringBuilder;)V" [] jdk_42_method_53_code 2 none R_sinB #[.ref x, .ref sb] h0 (fun v h => v = none ∧ Keep h0 h [x] ∧ ∃ (t : Addr) (kt : ClassId), n0 ≤ t ∧ h0.size ≤ t ∧ Cst Z h x t kt cs) := by
  rcases S with ⟨hA, S⟩ | ⟨hA, S⟩
  · exact (ct_sinB l Z a0 hw n0 x sb va kv (cs.map own_b) h0 hz O z S_cs hcs g_x E_x F_x_value F_x_coder S nxs nxv (by rw [List.length_map]; exact hl)).mono fun v h ⟨q1, q2, t, kt, q3, q4, q5⟩ => ⟨q1, q2, t, kt, q3, q4, Or.inl ⟨hA, q5⟩⟩
  · exact (ct_sinBu l Z a0 hw n0 x sb va kv cs h0 hz O z S_cs hcs g_x E_x F_x_value F_x_coder S nxs nxv hl).mono fun v h ⟨q1, q2, t, kt, q3, q4, q5⟩ => ⟨q1, q2, t, kt, q3, q4, Or.inr ⟨hA, q5⟩⟩
theorem ct_tosC (l : Launch) (Z : State) (a0 : Array Value) (hw : ∀ d ∈ tables_1, d.before a0 Z = true) (n0 : Nat) (sb va : Addr) (kv : ClassId) (cs : List Int32) (h0 : Heap) (hz : n0 ≤ h0.size) (O : Old Z n0 h0) (z : Int32) (S_cs : Sta Z Z.heap "java/lang/String" "COMPACT_STRINGS" "Z" (.int z)) (hcs : ¬ z = 0) (S : Cbd Z h0 sb va kv cs) (hl : cs.length ≤ 15) :
    Ct l Z n0 "java/lang/StringBuilder" "toString" "()Ljava/lang/String;" [] jdk_67_method_42_code 1 (some (.object "java/lang/String")) R_tos #[.ref sb] h0 (fun v h => ∃ (x t : Addr) (kt : ClassId), v = some (.ref x) ∧ Keep h0 h [] ∧ n0 ≤ x ∧ h0.size ≤ x ∧ n0 ≤ t ∧ h0.size ≤ t ∧ Cst Z h x t kt cs) := by
  refine Ct.of_go pf_tos (Ls := #[.val (.ref sb)]) (fun m => by first | rfl | (simp [entryFrame, mkF, argsToLocals, Value.category]; done)) ?_
  show GM_tos l Z n0 (fun v h => ∃ (x t : Addr) (kt : ClassId), v = some (.ref x) ∧ Keep h0 h [] ∧ n0 ≤ x ∧ h0.size ≤ x ∧ n0 ≤ t ∧ h0.size ≤ t ∧ Cst Z h x t kt cs) h0 0 0 0 #[.val (.ref sb)] []
  have KK : Keep h0 h0 [] := Keep.refl _ _
  -- at pc 0: pc 0: new .new 18 stack []
  refine Go.new (I' := IN) (hI := nE) (wd_180 hw) (wd_2 hw) (wd_3 hw) d_tos_0 (by decide) (by decide) fun hp113 x e_x X113 E_x D113 => ?_
  have K113 : Keep h0 hp113 [] := (Keep.refl _ _).ext X113
  have g_x : n0 ≤ x := e_x ▸ hz
  have s_x : h0.size ≤ x := e_x ▸ KK.1
  have ne_sb_x : sb ≠ x := Nat.ne_of_lt (e_x ▸ S.lt)
  have ne_va_x : va ≠ x := Nat.ne_of_lt (e_x ▸ S.lt2)
  replace O := O.keep K113 (all0)
  replace S := S.keep K113 nin0 nin0
  have F_x_coder : Fld Z hp113 x "java/lang/String" "coder" "B" (.int (0 : Int32)) := D113 (Or.inr (wd_28 hw)) (ty := .byte) (by decide)
  have F_x_value : Fld Z hp113 x "java/lang/String" "value" "[B" .null := D113 (Or.inr (wd_30 hw)) (ty := (.array .byte)) (by decide)
  replace hz : n0 ≤ hp113.size := Nat.le_trans hz K113.1
  replace KK : Keep h0 hp113 [] := KK.trans K113 (all0)
  refine Go.dup d_tos_3 rfl ?_
  refine Go.aloadN d_tos_4 rfl rfl ?_
  -- at pc 5: pc 5: invokespecial .invokespecial 137 stack [(.ref sb), (.ref x), (.ref x)]
  have KK1 := KK
  refine Go.callI (I' := IN) (hI := nQ) x [(.ref sb)] [(.ref x)] (ct_sinBC l Z a0 hw n0 x sb va kv cs _ hz O z S_cs hcs g_x E_x F_x_value F_x_coder S (Ne.symm ne_sb_x) (Ne.symm ne_va_x) hl) (wd_181 hw) (wd_182 hw) (wd_3 hw) (wd_183 hw) (by decide) pd_13 rfl rfl rfl (Nat.le_of_ble_eq_true rfl) (Nat.le_of_ble_eq_true rfl) (Nat.le_of_ble_eq_true rfl) (Nat.le_of_ble_eq_true rfl) d_tos_5 ?_
  rintro _ hp114 ⟨rfl, K114, t, kt, g_t, sz_t, B⟩
  replace O := O.keep K114 (allS g_x (all0))
  replace S := S.keep K114 (ninS ne_sb_x nin0) (ninS ne_va_x nin0)
  replace E_x := E_x.keep K114
  replace hz : n0 ≤ hp114.size := Nat.le_trans hz K114.1
  replace KK : Keep h0 hp114 [] := KK.trans K114 (allS (Or.inr s_x) (all0))
  show GM_tos l Z n0 (fun v h => ∃ (x t : Addr) (kt : ClassId), v = some (.ref x) ∧ Keep h0 h [] ∧ n0 ≤ x ∧ h0.size ≤ x ∧ n0 ≤ t ∧ h0.size ≤ t ∧ Cst Z h x t kt cs) hp114 2 36 8 #[.val (.ref sb)] [(.ref x)]
  have s_t : h0.size ≤ t := Nat.le_trans KK1.1 sz_t
  -- at pc 8: pc 8: areturn .areturn stack [(.ref x)]
  exact Go.areturn d_tos_8 rfl rfl rfl (by decide) (by decide) ⟨x, t, kt, rfl, KK, g_x, s_x, g_t, s_t, B⟩
-- PART strempty
theorem d_si4_0 : decode jdk_42_method_149_code 0 = .ok (.aload_n 0, 1) := by decide +kernel
theorem d_si4_1 : decode jdk_42_method_149_code 1 = .ok (.invokespecial 1, 3) := by decide +kernel
theorem d_si4_4 : decode jdk_42_method_149_code 4 = .ok (.iload_n 3, 1) := by decide +kernel
theorem d_si4_5 : decode jdk_42_method_149_code 5 = .ok (.ifCond .ne 22, 3) := by decide +kernel
theorem d_si4_8 : decode jdk_42_method_149_code 8 = .ok (.aload_n 0, 1) := by decide +kernel
theorem d_si4_9 : decode jdk_42_method_149_code 9 = .ok (.ldc 7, 2) := by decide +kernel
theorem d_si4_11 : decode jdk_42_method_149_code 11 = .ok (.getfield 9, 3) := by decide +kernel
theorem d_si4_14 : decode jdk_42_method_149_code 14 = .ok (.putfield 9, 3) := by decide +kernel
theorem d_si4_17 : decode jdk_42_method_149_code 17 = .ok (.aload_n 0, 1) := by decide +kernel
theorem d_si4_18 : decode jdk_42_method_149_code 18 = .ok (.ldc 7, 2) := by decide +kernel
theorem d_si4_20 : decode jdk_42_method_149_code 20 = .ok (.getfield 15, 3) := by decide +kernel
theorem d_si4_23 : decode jdk_42_method_149_code 23 = .ok (.putfield 15, 3) := by decide +kernel
theorem d_si4_26 : decode jdk_42_method_149_code 26 = .ok (.return_, 1) := by decide +kernel
abbrev R_si4 : Room := ({ frames := 1, cells := 4, slots := 8, locals := 12 } : Room)
abbrev GM_si4 (l : Launch) (Z : State) (n0 : Nat) (Q : Option Value → Heap → Prop) (h : Heap) (cells slots pc : Nat) (Ls : Array Slot) (st : List Value) : Prop := Go l Z n0 R_si4 "java/lang/String" "<init>" jdk_42_method_149_code 6 none IN (FN n0 R_si4 Q) h cells slots pc Ls st
abbrev GW_si4 (l : Launch) (Z : State) (EL : List (String × Nat)) (s₀ : State) (n0 : Nat) (Q : Option Value → Heap → Prop) (lo : Nat) (Sf : List Addr) (h : Heap) (cells slots pc : Nat) (Ls : Array Slot) (st : List Value) : Prop := Go l Z n0 R_si4 "java/lang/String" "<init>" jdk_42_method_149_code 6 none (IW Z EL s₀ lo Sf) (FW Z EL s₀ n0 R_si4 Q) h cells slots pc Ls st
theorem pf_si4 : plainFor (⟨"java/lang/String", "<init>", "([CIILjava/lang/Void;)V"⟩ : MethodName) = true := plainFor_of_name (by first | (simp [plainName, overriddenIn]; done) | decide +kernel)
theorem ctw_si4E (l : Launch) (Z : State) (a0 : Array Value) (hw : ∀ d ∈ tables_1, d.before a0 Z = true) (n0 : Nat) (x b : Addr) (h0 : Heap) (g_x : n0 ≤ x) (E_x : Exa Z h0 x "java/lang/String") (F_x_value : Fld Z h0 x "java/lang/String" "value" "[B" .null) (F_x_coder : Fld Z h0 x "java/lang/String" "coder" "B" (.int (0 : Int32))) :
    CtW l Z EL n0 "java/lang/String" "<init>" "([CIILjava/lang/Void;)V" [] jdk_42_method_149_code 6 none R_si4 #[.ref x, .ref b, .int (0 : Int32), .int (0 : Int32), .null] h0 [x] (fun v h => v = none ∧ Keep h0 h [x] ∧ ∃ (t : Addr) (kb : ClassId), Str Z h x t kb []) := by
  refine CtW.of_go pf_si4 (Ls := #[.val (.ref x), .val (.ref b), .val (.int (0 : Int32)), .val (.int (0 : Int32)), .val .null, .unset]) (fun m => by first | rfl | (simp [entryFrame, mkF, argsToLocals, Value.category]; done)) fun s₀ => ?_
  have hlo : h0.size ≤ h0.size := Nat.le_refl _
  have hEL : EW Z a0 EL := ewEL hw
  show GW_si4 l Z EL s₀ n0 (fun v h => v = none ∧ Keep h0 h [x] ∧ ∃ (t : Addr) (kb : ClassId), Str Z h x t kb []) h0.size [x] h0 0 0 0 #[.val (.ref x), .val (.ref b), .val (.int (0 : Int32)), .val (.int (0 : Int32)), .val .null, .unset] []
  have KK : Keep h0 h0 [x] := Keep.refl _ _
  refine Go.aloadN d_si4_0 rfl rfl ?_
  refine Go.initO (wd_12 hw) (wd_13 hw) (wd_14 hw) d_si4_1 rfl (by decide) (Nat.le_of_ble_eq_true rfl) ?_
  refine Go.iloadN d_si4_4 rfl ?_
  -- at pc 5: pc 5: ifCond .ifCond .ne 22 stack [(.int (0 : Int32))]
  -- (0 : Int32) = (0 : Int32)
  refine Go.ifF d_si4_5 (teq (rfl)).2 ?_
  refine Go.aloadN d_si4_8 rfl rfl ?_
  -- at pc 9: pc 9: ldc #7: no int constant
  refine GW.ldc [x] (vs := []) (z := 0) hEL (wSA hw) (wd_223 hw) (by decide) ⟨by decide, by decide⟩ (by decide) rfl d_si4_9 (n := 0) (by decide) (by decide) (by decide) (by decide) (allS ⟨Or.inr (by simp), E_x.lt⟩ all0) fun hp115 la lb k_lb X115 E_la F_la_coder F_la_value V_lb ns115 nx115 => ?_
  have K115 : Keep h0 hp115 [] := (Keep.refl _ _).ext X115
  replace E_x := E_x.keep K115
  replace F_x_value := F_x_value.keep K115 nin0
  replace F_x_coder := F_x_coder.keep K115 nin0
  replace hlo : h0.size ≤ hp115.size := Nat.le_trans hlo K115.1
  replace KK : Keep h0 hp115 [x] := KK.trans K115 (all0)
  replace hlo : hp115.size ≤ hp115.size := Nat.le_refl _
  have ne_x_la : x ≠ la := (ns115 x (by simp)).1
  have ne_x_lb : x ≠ lb := (ns115 x (by simp)).2
  show GW_si4 l Z EL s₀ n0 (fun v h => v = none ∧ Keep h0 h [x] ∧ ∃ (t : Addr) (kb : ClassId), Str Z h x t kb []) hp115.size [x] hp115 2 4 11 #[.val (.ref x), .val (.ref b), .val (.int (0 : Int32)), .val (.int (0 : Int32)), .val .null, .unset] [(.ref la), (.ref x)]
  refine Go.getF (wd_29 hw) Via.refl F_la_value d_si4_11 ?_
  refine Go.putF (I' := IW Z EL s₀ hp115.size [x]) (hI := wI (Sb.mem (by simp))) (wd_29 hw) Via.refl F_x_value E_x (Or.inr ⟨(wd_30 hw), rfl, rfl⟩) (wd_2 hw) (ty := (.array .byte)) (by decide) rfl rfl g_x d_si4_14 fun hp116 W116 => ?_
  have K116 := Keep.of_wr W116
  replace F_x_value := F_x_value.same W116
  replace F_x_coder := F_x_coder.other W116 (Or.inr (slot_ne (Or.inr (wd_28 hw)) (Or.inr (wd_30 hw)) (by decide) (t := .byte) (t' := (.array .byte)) (by decide) (by decide)))
  replace E_x := E_x.keep K116
  replace E_la := E_la.keep K116
  replace F_la_coder := F_la_coder.keep K116 (ninS (Ne.symm ne_x_la) nin0)
  replace F_la_value := F_la_value.keep K116 (ninS (Ne.symm ne_x_la) nin0)
  replace V_lb := V_lb.keep K116 (ninS (Ne.symm ne_x_lb) nin0)
  replace hlo : hp115.size ≤ hp116.size := Nat.le_trans hlo K116.1
  replace KK : Keep h0 hp116 [x] := KK.trans K116 (allS (Or.inl (by simp)) (all0))
  refine Go.aloadN d_si4_17 rfl rfl ?_
  -- at pc 18: pc 18: ldc #7: no int constant
  refine GW.ldc [x] (vs := []) (z := 0) hEL (wSA hw) (wd_223 hw) (by decide) ⟨by decide, by decide⟩ (by decide) rfl d_si4_18 (n := 0) (by decide) (by decide) (by decide) (by decide) (allS ⟨Or.inr (by simp), E_x.lt⟩ all0) fun hp117 lc ld k_ld X117 E_lc F_lc_coder F_lc_value V_ld ns117 nx117 => ?_
  have K117 : Keep hp116 hp117 [] := (Keep.refl _ _).ext X117
  replace E_x := E_x.keep K117
  replace F_x_value := F_x_value.keep K117 nin0
  replace F_x_coder := F_x_coder.keep K117 nin0
  replace E_la := E_la.keep K117
  replace F_la_coder := F_la_coder.keep K117 nin0
  replace F_la_value := F_la_value.keep K117 nin0
  replace V_lb := V_lb.keep K117 nin0
  replace hlo : hp115.size ≤ hp117.size := Nat.le_trans hlo K117.1
  replace KK : Keep h0 hp117 [x] := KK.trans K117 (all0)
  replace hlo : hp117.size ≤ hp117.size := Nat.le_refl _
  have ne_x_lc : x ≠ lc := (ns117 x (by simp)).1
  have ne_x_ld : x ≠ ld := (ns117 x (by simp)).2
  show GW_si4 l Z EL s₀ n0 (fun v h => v = none ∧ Keep h0 h [x] ∧ ∃ (t : Addr) (kb : ClassId), Str Z h x t kb []) hp117.size [x] hp117 4 8 20 #[.val (.ref x), .val (.ref b), .val (.int (0 : Int32)), .val (.int (0 : Int32)), .val .null, .unset] [(.ref lc), (.ref x)]
  refine Go.getF (wd_27 hw) Via.refl F_lc_coder d_si4_20 ?_
  refine Go.putFN (I' := IW Z EL s₀ hp117.size [x]) (hI := wI (Sb.mem (by simp))) (v' := (.int (0 : Int32))) (wd_27 hw) Via.refl F_x_coder E_x (Or.inr ⟨(wd_28 hw), rfl, rfl⟩) (wd_2 hw) (ty := .byte) (by decide) rfl rfl g_x d_si4_23 fun hp118 W118 => ?_
  have K118 := Keep.of_wr W118
  replace F_x_value := F_x_value.other W118 (Or.inr (slot_ne (Or.inr (wd_30 hw)) (Or.inr (wd_28 hw)) (by decide) (t := (.array .byte)) (t' := .byte) (by decide) (by decide)))
  replace F_x_coder := F_x_coder.same W118
  replace E_x := E_x.keep K118
  replace E_la := E_la.keep K118
  replace F_la_coder := F_la_coder.keep K118 (ninS (Ne.symm ne_x_la) nin0)
  replace F_la_value := F_la_value.keep K118 (ninS (Ne.symm ne_x_la) nin0)
  replace V_lb := V_lb.keep K118 (ninS (Ne.symm ne_x_lb) nin0)
  replace E_lc := E_lc.keep K118
  replace F_lc_coder := F_lc_coder.keep K118 (ninS (Ne.symm ne_x_lc) nin0)
  replace F_lc_value := F_lc_value.keep K118 (ninS (Ne.symm ne_x_lc) nin0)
  replace V_ld := V_ld.keep K118 (ninS (Ne.symm ne_x_ld) nin0)
  replace hlo : hp117.size ≤ hp118.size := Nat.le_trans hlo K118.1
  replace KK : Keep h0 hp118 [x] := KK.trans K118 (allS (Or.inl (by simp)) (all0))
  -- at pc 26: pc 26: return .return_ stack []
  exact GW.return_ hEL d_si4_26 rfl (by decide) (by decide) ⟨rfl, KK, lb, k_lb, E_x, F_x_coder, F_x_value, V_lb⟩
theorem d_si1_0 : decode jdk_42_method_3_code 0 = .ok (.aload_n 0, 1) := by decide +kernel
theorem d_si1_1 : decode jdk_42_method_3_code 1 = .ok (.aload_n 1, 1) := by decide +kernel
theorem d_si1_2 : decode jdk_42_method_3_code 2 = .ok (.iconst 0, 1) := by decide +kernel
theorem d_si1_3 : decode jdk_42_method_3_code 3 = .ok (.aload_n 1, 1) := by decide +kernel
theorem d_si1_4 : decode jdk_42_method_3_code 4 = .ok (.arraylength, 1) := by decide +kernel
theorem d_si1_5 : decode jdk_42_method_3_code 5 = .ok (.aconst_null, 1) := by decide +kernel
theorem d_si1_6 : decode jdk_42_method_3_code 6 = .ok (.invokespecial 27, 3) := by decide +kernel
theorem d_si1_9 : decode jdk_42_method_3_code 9 = .ok (.return_, 1) := by decide +kernel
abbrev R_si1 : Room := ({ frames := 2, cells := 4, slots := 8, locals := 29 } : Room)
abbrev GM_si1 (l : Launch) (Z : State) (n0 : Nat) (Q : Option Value → Heap → Prop) (h : Heap) (cells slots pc : Nat) (Ls : Array Slot) (st : List Value) : Prop := Go l Z n0 R_si1 "java/lang/String" "<init>" jdk_42_method_3_code 2 none IN (FN n0 R_si1 Q) h cells slots pc Ls st
abbrev GW_si1 (l : Launch) (Z : State) (EL : List (String × Nat)) (s₀ : State) (n0 : Nat) (Q : Option Value → Heap → Prop) (lo : Nat) (Sf : List Addr) (h : Heap) (cells slots pc : Nat) (Ls : Array Slot) (st : List Value) : Prop := Go l Z n0 R_si1 "java/lang/String" "<init>" jdk_42_method_3_code 2 none (IW Z EL s₀ lo Sf) (FW Z EL s₀ n0 R_si1 Q) h cells slots pc Ls st
theorem pf_si1 : plainFor (⟨"java/lang/String", "<init>", "([C)V"⟩ : MethodName) = true := plainFor_of_name (by first | (simp [plainName, overriddenIn]; done) | decide +kernel)
theorem ctw_si1E (l : Launch) (Z : State) (a0 : Array Value) (hw : ∀ d ∈ tables_1, d.before a0 Z = true) (n0 : Nat) (x b : Addr) (kC : ClassId) (dv : Value) (h0 : Heap) (g_x : n0 ≤ x) (E_x : Exa Z h0 x "java/lang/String") (F_x_value : Fld Z h0 x "java/lang/String" "value" "[B" .null) (F_x_coder : Fld Z h0 x "java/lang/String" "coder" "B" (.int (0 : Int32))) (V_b : Arv Z h0 b kC .char (0 : Int32) [] dv) :
    CtW l Z EL n0 "java/lang/String" "<init>" "([C)V" [] jdk_42_method_3_code 2 none R_si1 #[.ref x, .ref b] h0 [x] (fun v h => v = none ∧ Keep h0 h [x] ∧ ∃ (t : Addr) (kb : ClassId), Str Z h x t kb []) := by
  refine CtW.of_go pf_si1 (Ls := #[.val (.ref x), .val (.ref b)]) (fun m => by first | rfl | (simp [entryFrame, mkF, argsToLocals, Value.category]; done)) fun s₀ => ?_
  have hlo : h0.size ≤ h0.size := Nat.le_refl _
  have hEL : EW Z a0 EL := ewEL hw
  show GW_si1 l Z EL s₀ n0 (fun v h => v = none ∧ Keep h0 h [x] ∧ ∃ (t : Addr) (kb : ClassId), Str Z h x t kb []) h0.size [x] h0 0 0 0 #[.val (.ref x), .val (.ref b)] []
  have KK : Keep h0 h0 [x] := Keep.refl _ _
  refine Go.aloadN d_si1_0 rfl rfl ?_
  refine Go.aloadN d_si1_1 rfl rfl ?_
  refine Go.iconst 0 d_si1_2 rfl ?_
  refine Go.aloadN d_si1_3 rfl rfl ?_
  refine Go.arraylength V_b d_si1_4 ?_
  refine Go.null d_si1_5 ?_
  -- at pc 6: pc 6: invokespecial .invokespecial 27 stack [.null, (.int (0 : Int32)), (.int (0 : Int32)), (.ref b), (.ref x)]
  refine GW.callI [] [x] x [(.ref b), (.int (0 : Int32)), (.int (0 : Int32)), .null] [] (ctw_si4E l Z a0 hw n0 x b _ g_x E_x F_x_value F_x_coder) hEL (allS ⟨Or.inr (by simp), E_x.lt⟩ all0) all0 (wd_8 hw) (wd_9 hw) (wd_3 hw) (wd_11 hw) (by decide) pd_21 rfl rfl rfl (Nat.le_of_ble_eq_true rfl) (Nat.le_of_ble_eq_true rfl) (Nat.le_of_ble_eq_true rfl) (Nat.le_of_ble_eq_true rfl) d_si1_6 ?_
  rintro _ hp119 ⟨rfl, K119, t, kb, hS⟩ hgr119
  replace E_x := E_x.keep K119
  replace hlo : h0.size ≤ hp119.size := Nat.le_trans hlo K119.1
  replace KK : Keep h0 hp119 [x] := KK.trans K119 (allS (Or.inl (by simp)) (all0))
  replace hlo : hp119.size ≤ hp119.size := Nat.le_refl _
  show GW_si1 l Z EL s₀ n0 (fun v h => v = none ∧ Keep h0 h [x] ∧ ∃ (t : Addr) (kb : ClassId), Str Z h x t kb []) hp119.size [] hp119 4 8 9 #[.val (.ref x), .val (.ref b)] []
  -- at pc 9: pc 9: return .return_ stack []
  exact GW.return_ hEL d_si1_9 rfl (by decide) (by decide) ⟨rfl, KK, t, kb, hS⟩
theorem d_rinit_0 : decode jdk_30_method_1_code 0 = .ok (.aload_n 0, 1) := by decide +kernel
theorem d_rinit_1 : decode jdk_30_method_1_code 1 = .ok (.invokespecial 1, 3) := by decide +kernel
theorem d_rinit_4 : decode jdk_30_method_1_code 4 = .ok (.return_, 1) := by decide +kernel
abbrev R_rinit : Room := ({ frames := 1, cells := 0, slots := 0, locals := 12 } : Room)
abbrev GM_rinit (l : Launch) (Z : State) (n0 : Nat) (Q : Option Value → Heap → Prop) (h : Heap) (cells slots pc : Nat) (Ls : Array Slot) (st : List Value) : Prop := Go l Z n0 R_rinit "java/lang/Record" "<init>" jdk_30_method_1_code 1 none IN (FN n0 R_rinit Q) h cells slots pc Ls st
abbrev GW_rinit (l : Launch) (Z : State) (EL : List (String × Nat)) (s₀ : State) (n0 : Nat) (Q : Option Value → Heap → Prop) (lo : Nat) (Sf : List Addr) (h : Heap) (cells slots pc : Nat) (Ls : Array Slot) (st : List Value) : Prop := Go l Z n0 R_rinit "java/lang/Record" "<init>" jdk_30_method_1_code 1 none (IW Z EL s₀ lo Sf) (FW Z EL s₀ n0 R_rinit Q) h cells slots pc Ls st
theorem pf_rinit : plainFor (⟨"java/lang/Record", "<init>", "()V"⟩ : MethodName) = true := plainFor_of_name (by first | (simp [plainName, overriddenIn]; done) | decide +kernel)
theorem ct_rinit (l : Launch) (Z : State) (a0 : Array Value) (hw : ∀ d ∈ tables_1, d.before a0 Z = true) (n0 : Nat) (a : Addr) (h0 : Heap) : Ct l Z n0 "java/lang/Record" "<init>" "()V" [] jdk_30_method_1_code 1 none R_rinit #[.ref a] h0 (fun v h => v = none ∧ h0 = h) := by
  refine Ct.of_go pf_rinit (Ls := #[.val (.ref a)]) (fun m => by first | rfl | (simp [entryFrame, mkF, argsToLocals, Value.category]; done)) ?_
  show GM_rinit l Z n0 (fun v h => v = none ∧ h0 = h) h0 0 0 0 #[.val (.ref a)] []
  refine Go.aloadN d_rinit_0 rfl rfl ?_
  refine Go.initO (wd_45 hw) (wd_13 hw) (wd_14 hw) d_rinit_1 rfl (by decide) (Nat.le_of_ble_eq_true rfl) ?_
  -- at pc 4: pc 4: return .return_ stack []
  exact Go.return_ d_rinit_4 rfl (by decide) (by decide) ⟨rfl, rfl⟩
theorem d_oni_0 : decode prog_58_method_1_code 0 = .ok (.aload_n 0, 1) := by decide +kernel
theorem d_oni_1 : decode prog_58_method_1_code 1 = .ok (.invokespecial 1, 3) := by decide +kernel
theorem d_oni_4 : decode prog_58_method_1_code 4 = .ok (.aload_n 0, 1) := by decide +kernel
theorem d_oni_5 : decode prog_58_method_1_code 5 = .ok (.aload_n 1, 1) := by decide +kernel
theorem d_oni_6 : decode prog_58_method_1_code 6 = .ok (.putfield 7, 3) := by decide +kernel
theorem d_oni_9 : decode prog_58_method_1_code 9 = .ok (.aload_n 0, 1) := by decide +kernel
theorem d_oni_10 : decode prog_58_method_1_code 10 = .ok (.aload_n 2, 1) := by decide +kernel
theorem d_oni_11 : decode prog_58_method_1_code 11 = .ok (.putfield 13, 3) := by decide +kernel
theorem d_oni_14 : decode prog_58_method_1_code 14 = .ok (.aload_n 0, 1) := by decide +kernel
theorem d_oni_15 : decode prog_58_method_1_code 15 = .ok (.aload_n 3, 1) := by decide +kernel
theorem d_oni_16 : decode prog_58_method_1_code 16 = .ok (.putfield 17, 3) := by decide +kernel
theorem d_oni_19 : decode prog_58_method_1_code 19 = .ok (.aload_n 0, 1) := by decide +kernel
theorem d_oni_20 : decode prog_58_method_1_code 20 = .ok (.iload 4, 2) := by decide +kernel
theorem d_oni_22 : decode prog_58_method_1_code 22 = .ok (.putfield 20, 3) := by decide +kernel
theorem d_oni_25 : decode prog_58_method_1_code 25 = .ok (.return_, 1) := by decide +kernel
abbrev R_oni : Room := ({ frames := 2, cells := 0, slots := 0, locals := 24 } : Room)
abbrev GM_oni (l : Launch) (Z : State) (n0 : Nat) (Q : Option Value → Heap → Prop) (h : Heap) (cells slots pc : Nat) (Ls : Array Slot) (st : List Value) : Prop := Go l Z n0 R_oni "com/example/vestry/vestry/ObjectName" "<init>" prog_58_method_1_code 5 none IN (FN n0 R_oni Q) h cells slots pc Ls st
abbrev GW_oni (l : Launch) (Z : State) (EL : List (String × Nat)) (s₀ : State) (n0 : Nat) (Q : Option Value → Heap → Prop) (lo : Nat) (Sf : List Addr) (h : Heap) (cells slots pc : Nat) (Ls : Array Slot) (st : List Value) : Prop := Go l Z n0 R_oni "com/example/vestry/vestry/ObjectName" "<init>" prog_58_method_1_code 5 none (IW Z EL s₀ lo Sf) (FW Z EL s₀ n0 R_oni Q) h cells slots pc Ls st
theorem pf_oni : plainFor (⟨"com/example/vestry/vestry/ObjectName", "<init>", "(Lcom/example/vestry/vestry/ObjectName;Ljava/lang/String;Ljava/lang/String;I)V"⟩ : MethodName) = true := plainFor_of_name (by first | (simp [plainName, overriddenIn]; done) | decide +kernel)
theorem ct_oni (l : Launch) (Z : State) (a0 : Array Value) (hw : ∀ d ∈ tables_1, d.before a0 Z = true) (n0 : Nat) (a x : Addr) (vi : Value) (hvi : vi.isRef = true) (h0 : Heap) (g_a : n0 ≤ a) (E_a : Exa Z h0 a "com/example/vestry/vestry/ObjectName") (F1 : Fld Z h0 a "com/example/vestry/vestry/ObjectName" "within" "Lcom/example/vestry/vestry/ObjectName;" .null) (F2 : Fld Z h0 a "com/example/vestry/vestry/ObjectName" "kind" "Ljava/lang/String;" .null) (F3 : Fld Z h0 a "com/example/vestry/vestry/ObjectName" "id" "Ljava/lang/String;" .null) (F4 : Fld Z h0 a "com/example/vestry/vestry/ObjectName" "index" "I" (.int (0 : Int32))) :
    Ct l Z n0 "com/example/vestry/vestry/ObjectName" "<init>" "(Lcom/example/vestry/vestry/ObjectName;Ljava/lang/String;Ljava/lang/String;I)V" [] prog_58_method_1_code 5 none R_oni #[.ref a, .null, .ref x, vi, .int (0 : Int32)] h0 (fun v h => v = none ∧ Keep h0 h [a] ∧ Fld Z h a "com/example/vestry/vestry/ObjectName" "within" "Lcom/example/vestry/vestry/ObjectName;" .null ∧ Fld Z h a "com/example/vestry/vestry/ObjectName" "kind" "Ljava/lang/String;" (.ref x) ∧ Fld Z h a "com/example/vestry/vestry/ObjectName" "id" "Ljava/lang/String;" vi ∧ Fld Z h a "com/example/vestry/vestry/ObjectName" "index" "I" (.int (0 : Int32))) := by
  refine Ct.of_go pf_oni (Ls := #[.val (.ref a), .val .null, .val (.ref x), .val vi, .val (.int (0 : Int32))]) (fun m => by rcases ref_cases hvi with rfl | ⟨_, rfl⟩ <;> rfl) ?_
  show GM_oni l Z n0 (fun v h => v = none ∧ Keep h0 h [a] ∧ Fld Z h a "com/example/vestry/vestry/ObjectName" "within" "Lcom/example/vestry/vestry/ObjectName;" .null ∧ Fld Z h a "com/example/vestry/vestry/ObjectName" "kind" "Ljava/lang/String;" (.ref x) ∧ Fld Z h a "com/example/vestry/vestry/ObjectName" "id" "Ljava/lang/String;" vi ∧ Fld Z h a "com/example/vestry/vestry/ObjectName" "index" "I" (.int (0 : Int32))) h0 0 0 0 #[.val (.ref a), .val .null, .val (.ref x), .val vi, .val (.int (0 : Int32))] []
  have KK : Keep h0 h0 [a] := Keep.refl _ _
  refine Go.aloadN d_oni_0 rfl rfl ?_
  -- at pc 1: pc 1: invokespecial .invokespecial 1 stack [(.ref a)]
  refine Go.callI (I' := IN) (hI := nQ) a [] [] (ct_rinit l Z a0 hw n0 a _) (wd_40 hw) (wd_41 hw) (wd_43 hw) (wd_44 hw) (by decide) pd_28 rfl rfl rfl (Nat.le_of_ble_eq_true rfl) (Nat.le_of_ble_eq_true rfl) (Nat.le_of_ble_eq_true rfl) (Nat.le_of_ble_eq_true rfl) d_oni_1 ?_
  rintro _ _ ⟨rfl, rfl⟩
  show GM_oni l Z n0 (fun v h => v = none ∧ Keep h0 h [a] ∧ Fld Z h a "com/example/vestry/vestry/ObjectName" "within" "Lcom/example/vestry/vestry/ObjectName;" .null ∧ Fld Z h a "com/example/vestry/vestry/ObjectName" "kind" "Ljava/lang/String;" (.ref x) ∧ Fld Z h a "com/example/vestry/vestry/ObjectName" "id" "Ljava/lang/String;" vi ∧ Fld Z h a "com/example/vestry/vestry/ObjectName" "index" "I" (.int (0 : Int32))) h0 0 0 4 #[.val (.ref a), .val .null, .val (.ref x), .val vi, .val (.int (0 : Int32))] []
  refine Go.aloadN d_oni_4 rfl rfl ?_
  refine Go.aloadN d_oni_5 rfl rfl ?_
  refine Go.putF (I' := IN) (hI := nI) (wd_46 hw) Via.refl F1 E_a (Or.inr ⟨(wd_47 hw), rfl, rfl⟩) (wd_36 hw) (ty := (.object "com/example/vestry/vestry/ObjectName")) (by decide) rfl rfl g_a d_oni_6 fun hp121 W121 => ?_
  have K121 := Keep.of_wr W121
  replace F1 := F1.same W121
  replace F2 := F2.other W121 (Or.inr (slot_ne (Or.inr (wd_49 hw)) (Or.inr (wd_47 hw)) (by decide) (t := (.object "java/lang/String")) (t' := (.object "com/example/vestry/vestry/ObjectName")) (by decide) (by decide)))
  replace F3 := F3.other W121 (Or.inr (slot_ne (Or.inr (wd_51 hw)) (Or.inr (wd_47 hw)) (by decide) (t := (.object "java/lang/String")) (t' := (.object "com/example/vestry/vestry/ObjectName")) (by decide) (by decide)))
  replace F4 := F4.other W121 (Or.inr (slot_ne (Or.inr (wd_53 hw)) (Or.inr (wd_47 hw)) (by decide) (t := .int) (t' := (.object "com/example/vestry/vestry/ObjectName")) (by decide) (by decide)))
  replace E_a := E_a.keep K121
  replace KK : Keep h0 hp121 [a] := KK.trans K121 (allS (Or.inl (by simp)) (all0))
  refine Go.aloadN d_oni_9 rfl rfl ?_
  refine Go.aloadN d_oni_10 rfl rfl ?_
  refine Go.putF (I' := IN) (hI := nI) (wd_48 hw) Via.refl F2 E_a (Or.inr ⟨(wd_49 hw), rfl, rfl⟩) (wd_36 hw) (ty := (.object "java/lang/String")) (by decide) rfl rfl g_a d_oni_11 fun hp122 W122 => ?_
  have K122 := Keep.of_wr W122
  replace F1 := F1.other W122 (Or.inr (slot_ne (Or.inr (wd_47 hw)) (Or.inr (wd_49 hw)) (by decide) (t := (.object "com/example/vestry/vestry/ObjectName")) (t' := (.object "java/lang/String")) (by decide) (by decide)))
  replace F2 := F2.same W122
  replace F3 := F3.other W122 (Or.inr (slot_ne (Or.inr (wd_51 hw)) (Or.inr (wd_49 hw)) (by decide) (t := (.object "java/lang/String")) (t' := (.object "java/lang/String")) (by decide) (by decide)))
  replace F4 := F4.other W122 (Or.inr (slot_ne (Or.inr (wd_53 hw)) (Or.inr (wd_49 hw)) (by decide) (t := .int) (t' := (.object "java/lang/String")) (by decide) (by decide)))
  replace E_a := E_a.keep K122
  replace KK : Keep h0 hp122 [a] := KK.trans K122 (allS (Or.inl (by simp)) (all0))
  refine Go.aloadN d_oni_14 rfl rfl ?_
  refine Go.aloadN d_oni_15 rfl hvi ?_
  refine Go.putF (I' := IN) (hI := nI) (wd_50 hw) Via.refl F3 E_a (Or.inr ⟨(wd_51 hw), rfl, rfl⟩) (wd_36 hw) (ty := (.object "java/lang/String")) (by decide) rfl (fits_ref' hvi) g_a d_oni_16 fun hp123 W123 => ?_
  have K123 := Keep.of_wr W123
  replace F1 := F1.other W123 (Or.inr (slot_ne (Or.inr (wd_47 hw)) (Or.inr (wd_51 hw)) (by decide) (t := (.object "com/example/vestry/vestry/ObjectName")) (t' := (.object "java/lang/String")) (by decide) (by decide)))
  replace F2 := F2.other W123 (Or.inr (slot_ne (Or.inr (wd_49 hw)) (Or.inr (wd_51 hw)) (by decide) (t := (.object "java/lang/String")) (t' := (.object "java/lang/String")) (by decide) (by decide)))
  replace F3 := F3.same W123
  replace F4 := F4.other W123 (Or.inr (slot_ne (Or.inr (wd_53 hw)) (Or.inr (wd_51 hw)) (by decide) (t := .int) (t' := (.object "java/lang/String")) (by decide) (by decide)))
  replace E_a := E_a.keep K123
  replace KK : Keep h0 hp123 [a] := KK.trans K123 (allS (Or.inl (by simp)) (all0))
  refine Go.aloadN d_oni_19 rfl rfl ?_
  refine Go.iload d_oni_20 rfl ?_
  refine Go.putF (I' := IN) (hI := nI) (wd_52 hw) Via.refl F4 E_a (Or.inr ⟨(wd_53 hw), rfl, rfl⟩) (wd_36 hw) (ty := .int) (by decide) rfl rfl g_a d_oni_22 fun hp124 W124 => ?_
  have K124 := Keep.of_wr W124
  replace F1 := F1.other W124 (Or.inr (slot_ne (Or.inr (wd_47 hw)) (Or.inr (wd_53 hw)) (by decide) (t := (.object "com/example/vestry/vestry/ObjectName")) (t' := .int) (by decide) (by decide)))
  replace F2 := F2.other W124 (Or.inr (slot_ne (Or.inr (wd_49 hw)) (Or.inr (wd_53 hw)) (by decide) (t := (.object "java/lang/String")) (t' := .int) (by decide) (by decide)))
  replace F3 := F3.other W124 (Or.inr (slot_ne (Or.inr (wd_51 hw)) (Or.inr (wd_53 hw)) (by decide) (t := (.object "java/lang/String")) (t' := .int) (by decide) (by decide)))
  replace F4 := F4.same W124
  replace E_a := E_a.keep K124
  replace KK : Keep h0 hp124 [a] := KK.trans K124 (allS (Or.inl (by simp)) (all0))
  -- at pc 25: pc 25: return .return_ stack []
  exact Go.return_ d_oni_25 rfl (by decide) (by decide) ⟨rfl, KK, F1, F2, F3, F4⟩
theorem d_onof_0 : decode prog_58_method_2_code 0 = .ok (.new 8, 3) := by decide +kernel
theorem d_onof_3 : decode prog_58_method_2_code 3 = .ok (.dup, 1) := by decide +kernel
theorem d_onof_4 : decode prog_58_method_2_code 4 = .ok (.aconst_null, 1) := by decide +kernel
theorem d_onof_5 : decode prog_58_method_2_code 5 = .ok (.aload_n 0, 1) := by decide +kernel
theorem d_onof_6 : decode prog_58_method_2_code 6 = .ok (.aload_n 1, 1) := by decide +kernel
theorem d_onof_7 : decode prog_58_method_2_code 7 = .ok (.iconst 0, 1) := by decide +kernel
theorem d_onof_8 : decode prog_58_method_2_code 8 = .ok (.invokespecial 24, 3) := by decide +kernel
theorem d_onof_11 : decode prog_58_method_2_code 11 = .ok (.areturn, 1) := by decide +kernel
abbrev R_onof : Room := ({ frames := 3, cells := 1, slots := 4, locals := 44 } : Room)
abbrev GM_onof (l : Launch) (Z : State) (n0 : Nat) (Q : Option Value → Heap → Prop) (h : Heap) (cells slots pc : Nat) (Ls : Array Slot) (st : List Value) : Prop := Go l Z n0 R_onof "com/example/vestry/vestry/ObjectName" "of" prog_58_method_2_code 2 (some (.object "com/example/vestry/vestry/ObjectName")) IN (FN n0 R_onof Q) h cells slots pc Ls st
abbrev GW_onof (l : Launch) (Z : State) (EL : List (String × Nat)) (s₀ : State) (n0 : Nat) (Q : Option Value → Heap → Prop) (lo : Nat) (Sf : List Addr) (h : Heap) (cells slots pc : Nat) (Ls : Array Slot) (st : List Value) : Prop := Go l Z n0 R_onof "com/example/vestry/vestry/ObjectName" "of" prog_58_method_2_code 2 (some (.object "com/example/vestry/vestry/ObjectName")) (IW Z EL s₀ lo Sf) (FW Z EL s₀ n0 R_onof Q) h cells slots pc Ls st
theorem pf_onof : plainFor (⟨"com/example/vestry/vestry/ObjectName", "of", "(Ljava/lang/String;Ljava/lang/String;)Lcom/example/vestry/vestry/ObjectName;"⟩ : MethodName) = true := plainFor_of_name (by first | (simp [plainName, overriddenIn]; done) | decide +kernel)
theorem ct_onof (l : Launch) (Z : State) (a0 : Array Value) (hw : ∀ d ∈ tables_1, d.before a0 Z = true) (n0 : Nat) (x : Addr) (vi : Value) (hvi : vi.isRef = true) (h0 : Heap) (hz : n0 ≤ h0.size) :
    Ct l Z n0 "com/example/vestry/vestry/ObjectName" "of" "(Ljava/lang/String;Ljava/lang/String;)Lcom/example/vestry/vestry/ObjectName;" [] prog_58_method_2_code 2 (some (.object "com/example/vestry/vestry/ObjectName")) R_onof #[.ref x, vi] h0 (fun v h => ∃ o : Addr, v = some (.ref o) ∧ Keep h0 h [] ∧ Exa Z h o "com/example/vestry/vestry/ObjectName" ∧ Fld Z h o "com/example/vestry/vestry/ObjectName" "within" "Lcom/example/vestry/vestry/ObjectName;" .null ∧ Fld Z h o "com/example/vestry/vestry/ObjectName" "kind" "Ljava/lang/String;" (.ref x) ∧ Fld Z h o "com/example/vestry/vestry/ObjectName" "id" "Ljava/lang/String;" vi ∧ Fld Z h o "com/example/vestry/vestry/ObjectName" "index" "I" (.int (0 : Int32))) := by
  refine Ct.of_go pf_onof (Ls := #[.val (.ref x), .val vi]) (fun m => by rcases ref_cases hvi with rfl | ⟨_, rfl⟩ <;> rfl) ?_
  show GM_onof l Z n0 (fun v h => ∃ o : Addr, v = some (.ref o) ∧ Keep h0 h [] ∧ Exa Z h o "com/example/vestry/vestry/ObjectName" ∧ Fld Z h o "com/example/vestry/vestry/ObjectName" "within" "Lcom/example/vestry/vestry/ObjectName;" .null ∧ Fld Z h o "com/example/vestry/vestry/ObjectName" "kind" "Ljava/lang/String;" (.ref x) ∧ Fld Z h o "com/example/vestry/vestry/ObjectName" "id" "Ljava/lang/String;" vi ∧ Fld Z h o "com/example/vestry/vestry/ObjectName" "index" "I" (.int (0 : Int32))) h0 0 0 0 #[.val (.ref x), .val vi] []
  have KK : Keep h0 h0 [] := Keep.refl _ _
  refine Go.new (I' := IN) (hI := nE) (wd_35 hw) (wd_36 hw) (wd_33 hw) d_onof_0 (by decide) (by decide) fun hp125 o e_o X125 E_o D125 => ?_
  have K125 : Keep h0 hp125 [] := (Keep.refl _ _).ext X125
  have g_o : n0 ≤ o := e_o ▸ hz
  have s_o : h0.size ≤ o := e_o ▸ KK.1
  have F_o_within : Fld Z hp125 o "com/example/vestry/vestry/ObjectName" "within" "Lcom/example/vestry/vestry/ObjectName;" .null := D125 (Or.inr (wd_47 hw)) (ty := (.object "com/example/vestry/vestry/ObjectName")) (by decide)
  have F_o_kind : Fld Z hp125 o "com/example/vestry/vestry/ObjectName" "kind" "Ljava/lang/String;" .null := D125 (Or.inr (wd_49 hw)) (ty := (.object "java/lang/String")) (by decide)
  have F_o_id : Fld Z hp125 o "com/example/vestry/vestry/ObjectName" "id" "Ljava/lang/String;" .null := D125 (Or.inr (wd_51 hw)) (ty := (.object "java/lang/String")) (by decide)
  have F_o_index : Fld Z hp125 o "com/example/vestry/vestry/ObjectName" "index" "I" (.int (0 : Int32)) := D125 (Or.inr (wd_53 hw)) (ty := .int) (by decide)
  replace hz : n0 ≤ hp125.size := Nat.le_trans hz K125.1
  replace KK : Keep h0 hp125 [] := KK.trans K125 (all0)
  refine Go.dup d_onof_3 rfl ?_
  refine Go.null d_onof_4 ?_
  refine Go.aloadN d_onof_5 rfl rfl ?_
  refine Go.aloadN d_onof_6 rfl hvi ?_
  refine Go.iconst 0 d_onof_7 rfl ?_
  -- at pc 8: pc 8: invokespecial .invokespecial 24 stack [(.int (0 : Int32)), vi, (.ref x), .null, (.ref o), (.ref o)]
  refine Go.callI (I' := IN) (hI := nQ) o [.null, (.ref x), vi, (.int (0 : Int32))] [(.ref o)] (ct_oni l Z a0 hw n0 o x vi hvi _ g_o E_o F_o_within F_o_kind F_o_id F_o_index) (wd_37 hw) (wd_38 hw) (wd_33 hw) (wd_39 hw) (by decide) pd_33 rfl rfl rfl (Nat.le_of_ble_eq_true rfl) (Nat.le_of_ble_eq_true rfl) (Nat.le_of_ble_eq_true rfl) (Nat.le_of_ble_eq_true rfl) d_onof_8 ?_
  rintro _ hp126 ⟨rfl, K126, F1, F2, F3, F4⟩
  replace E_o := E_o.keep K126
  replace hz : n0 ≤ hp126.size := Nat.le_trans hz K126.1
  replace KK : Keep h0 hp126 [] := KK.trans K126 (allS (Or.inr s_o) (all0))
  show GM_onof l Z n0 (fun v h => ∃ o : Addr, v = some (.ref o) ∧ Keep h0 h [] ∧ Exa Z h o "com/example/vestry/vestry/ObjectName" ∧ Fld Z h o "com/example/vestry/vestry/ObjectName" "within" "Lcom/example/vestry/vestry/ObjectName;" .null ∧ Fld Z h o "com/example/vestry/vestry/ObjectName" "kind" "Ljava/lang/String;" (.ref x) ∧ Fld Z h o "com/example/vestry/vestry/ObjectName" "id" "Ljava/lang/String;" vi ∧ Fld Z h o "com/example/vestry/vestry/ObjectName" "index" "I" (.int (0 : Int32))) hp126 1 4 11 #[.val (.ref x), .val vi] [(.ref o)]
  -- at pc 11: pc 11: areturn .areturn stack [(.ref o)]
  exact Go.areturn d_onof_11 rfl rfl rfl (by decide) (by decide) ⟨o, rfl, KK, E_o, F1, F2, F3, F4⟩
theorem d_onw_0 : decode prog_58_method_9_code 0 = .ok (.aload_n 0, 1) := by decide +kernel
theorem d_onw_1 : decode prog_58_method_9_code 1 = .ok (.getfield 7, 3) := by decide +kernel
theorem d_onw_4 : decode prog_58_method_9_code 4 = .ok (.areturn, 1) := by decide +kernel
abbrev R_onw : Room := ({ frames := 0, cells := 0, slots := 0, locals := 0 } : Room)
abbrev GM_onw (l : Launch) (Z : State) (n0 : Nat) (Q : Option Value → Heap → Prop) (h : Heap) (cells slots pc : Nat) (Ls : Array Slot) (st : List Value) : Prop := Go l Z n0 R_onw "com/example/vestry/vestry/ObjectName" "within" prog_58_method_9_code 1 (some (.object "com/example/vestry/vestry/ObjectName")) IN (FN n0 R_onw Q) h cells slots pc Ls st
abbrev GW_onw (l : Launch) (Z : State) (EL : List (String × Nat)) (s₀ : State) (n0 : Nat) (Q : Option Value → Heap → Prop) (lo : Nat) (Sf : List Addr) (h : Heap) (cells slots pc : Nat) (Ls : Array Slot) (st : List Value) : Prop := Go l Z n0 R_onw "com/example/vestry/vestry/ObjectName" "within" prog_58_method_9_code 1 (some (.object "com/example/vestry/vestry/ObjectName")) (IW Z EL s₀ lo Sf) (FW Z EL s₀ n0 R_onw Q) h cells slots pc Ls st
theorem pf_onw : plainFor (⟨"com/example/vestry/vestry/ObjectName", "within", "()Lcom/example/vestry/vestry/ObjectName;"⟩ : MethodName) = true := plainFor_of_name (by first | (simp [plainName, overriddenIn]; done) | decide +kernel)
theorem ct_onw (l : Launch) (Z : State) (a0 : Array Value) (hw : ∀ d ∈ tables_1, d.before a0 Z = true) (n0 : Nat) (o : Addr) (h0 : Heap) (F : Fld Z h0 o "com/example/vestry/vestry/ObjectName" "within" "Lcom/example/vestry/vestry/ObjectName;" .null) : Ct l Z n0 "com/example/vestry/vestry/ObjectName" "within" "()Lcom/example/vestry/vestry/ObjectName;" [] prog_58_method_9_code 1 (some (.object "com/example/vestry/vestry/ObjectName")) R_onw #[.ref o] h0 (fun v h => v = some .null ∧ h0 = h) := by
  refine Ct.of_go pf_onw (Ls := #[.val (.ref o)]) (fun m => by first | rfl | (simp [entryFrame, mkF, argsToLocals, Value.category]; done)) ?_
  show GM_onw l Z n0 (fun v h => v = some .null ∧ h0 = h) h0 0 0 0 #[.val (.ref o)] []
  refine Go.aloadN d_onw_0 rfl rfl ?_
  refine Go.getF (wd_46 hw) Via.refl F d_onw_1 ?_
  -- at pc 4: pc 4: areturn .areturn stack [.null]
  exact Go.areturn d_onw_4 rfl rfl rfl (by decide) (by decide) ⟨rfl, rfl⟩
theorem d_onk_0 : decode prog_58_method_10_code 0 = .ok (.aload_n 0, 1) := by decide +kernel
theorem d_onk_1 : decode prog_58_method_10_code 1 = .ok (.getfield 13, 3) := by decide +kernel
theorem d_onk_4 : decode prog_58_method_10_code 4 = .ok (.areturn, 1) := by decide +kernel
abbrev R_onk : Room := ({ frames := 0, cells := 0, slots := 0, locals := 0 } : Room)
abbrev GM_onk (l : Launch) (Z : State) (n0 : Nat) (Q : Option Value → Heap → Prop) (h : Heap) (cells slots pc : Nat) (Ls : Array Slot) (st : List Value) : Prop := Go l Z n0 R_onk "com/example/vestry/vestry/ObjectName" "kind" prog_58_method_10_code 1 (some (.object "java/lang/String")) IN (FN n0 R_onk Q) h cells slots pc Ls st
abbrev GW_onk (l : Launch) (Z : State) (EL : List (String × Nat)) (s₀ : State) (n0 : Nat) (Q : Option Value → Heap → Prop) (lo : Nat) (Sf : List Addr) (h : Heap) (cells slots pc : Nat) (Ls : Array Slot) (st : List Value) : Prop := Go l Z n0 R_onk "com/example/vestry/vestry/ObjectName" "kind" prog_58_method_10_code 1 (some (.object "java/lang/String")) (IW Z EL s₀ lo Sf) (FW Z EL s₀ n0 R_onk Q) h cells slots pc Ls st
theorem pf_onk : plainFor (⟨"com/example/vestry/vestry/ObjectName", "kind", "()Ljava/lang/String;"⟩ : MethodName) = true := plainFor_of_name (by first | (simp [plainName, overriddenIn]; done) | decide +kernel)
theorem ct_onk (l : Launch) (Z : State) (a0 : Array Value) (hw : ∀ d ∈ tables_1, d.before a0 Z = true) (n0 : Nat) (o x : Addr) (h0 : Heap) (F : Fld Z h0 o "com/example/vestry/vestry/ObjectName" "kind" "Ljava/lang/String;" (.ref x)) : Ct l Z n0 "com/example/vestry/vestry/ObjectName" "kind" "()Ljava/lang/String;" [] prog_58_method_10_code 1 (some (.object "java/lang/String")) R_onk #[.ref o] h0 (fun v h => v = some (.ref x) ∧ h0 = h) := by
  refine Ct.of_go pf_onk (Ls := #[.val (.ref o)]) (fun m => by first | rfl | (simp [entryFrame, mkF, argsToLocals, Value.category]; done)) ?_
  show GM_onk l Z n0 (fun v h => v = some (.ref x) ∧ h0 = h) h0 0 0 0 #[.val (.ref o)] []
  refine Go.aloadN d_onk_0 rfl rfl ?_
  refine Go.getF (wd_48 hw) Via.refl F d_onk_1 ?_
  -- at pc 4: pc 4: areturn .areturn stack [(.ref x)]
  exact Go.areturn d_onk_4 rfl rfl rfl (by decide) (by decide) ⟨rfl, rfl⟩
theorem d_ond_0 : decode prog_58_method_11_code 0 = .ok (.aload_n 0, 1) := by decide +kernel
theorem d_ond_1 : decode prog_58_method_11_code 1 = .ok (.getfield 17, 3) := by decide +kernel
theorem d_ond_4 : decode prog_58_method_11_code 4 = .ok (.areturn, 1) := by decide +kernel
abbrev R_ond : Room := ({ frames := 0, cells := 0, slots := 0, locals := 0 } : Room)
abbrev GM_ond (l : Launch) (Z : State) (n0 : Nat) (Q : Option Value → Heap → Prop) (h : Heap) (cells slots pc : Nat) (Ls : Array Slot) (st : List Value) : Prop := Go l Z n0 R_ond "com/example/vestry/vestry/ObjectName" "id" prog_58_method_11_code 1 (some (.object "java/lang/String")) IN (FN n0 R_ond Q) h cells slots pc Ls st
abbrev GW_ond (l : Launch) (Z : State) (EL : List (String × Nat)) (s₀ : State) (n0 : Nat) (Q : Option Value → Heap → Prop) (lo : Nat) (Sf : List Addr) (h : Heap) (cells slots pc : Nat) (Ls : Array Slot) (st : List Value) : Prop := Go l Z n0 R_ond "com/example/vestry/vestry/ObjectName" "id" prog_58_method_11_code 1 (some (.object "java/lang/String")) (IW Z EL s₀ lo Sf) (FW Z EL s₀ n0 R_ond Q) h cells slots pc Ls st
theorem pf_ond : plainFor (⟨"com/example/vestry/vestry/ObjectName", "id", "()Ljava/lang/String;"⟩ : MethodName) = true := plainFor_of_name (by first | (simp [plainName, overriddenIn]; done) | decide +kernel)
theorem ct_ond (l : Launch) (Z : State) (a0 : Array Value) (hw : ∀ d ∈ tables_1, d.before a0 Z = true) (n0 : Nat) (o : Addr) (vi : Value) (hvi : vi.isRef = true) (h0 : Heap) (F : Fld Z h0 o "com/example/vestry/vestry/ObjectName" "id" "Ljava/lang/String;" vi) : Ct l Z n0 "com/example/vestry/vestry/ObjectName" "id" "()Ljava/lang/String;" [] prog_58_method_11_code 1 (some (.object "java/lang/String")) R_ond #[.ref o] h0 (fun v h => v = some vi ∧ h0 = h) := by
  refine Ct.of_go pf_ond (Ls := #[.val (.ref o)]) (fun m => by first | rfl | (simp [entryFrame, mkF, argsToLocals, Value.category]; done)) ?_
  show GM_ond l Z n0 (fun v h => v = some vi ∧ h0 = h) h0 0 0 0 #[.val (.ref o)] []
  refine Go.aloadN d_ond_0 rfl rfl ?_
  refine Go.getF (wd_50 hw) Via.refl F d_ond_1 ?_
  -- at pc 4: pc 4: areturn .areturn stack [vi]
  exact Go.areturn d_ond_4 rfl rfl hvi (by decide) (by decide) ⟨rfl, rfl⟩
theorem d_onx_0 : decode prog_58_method_12_code 0 = .ok (.aload_n 0, 1) := by decide +kernel
theorem d_onx_1 : decode prog_58_method_12_code 1 = .ok (.getfield 20, 3) := by decide +kernel
theorem d_onx_4 : decode prog_58_method_12_code 4 = .ok (.ireturn, 1) := by decide +kernel
abbrev R_onx : Room := ({ frames := 0, cells := 0, slots := 0, locals := 0 } : Room)
abbrev GM_onx (l : Launch) (Z : State) (n0 : Nat) (Q : Option Value → Heap → Prop) (h : Heap) (cells slots pc : Nat) (Ls : Array Slot) (st : List Value) : Prop := Go l Z n0 R_onx "com/example/vestry/vestry/ObjectName" "index" prog_58_method_12_code 1 (some .int) IN (FN n0 R_onx Q) h cells slots pc Ls st
abbrev GW_onx (l : Launch) (Z : State) (EL : List (String × Nat)) (s₀ : State) (n0 : Nat) (Q : Option Value → Heap → Prop) (lo : Nat) (Sf : List Addr) (h : Heap) (cells slots pc : Nat) (Ls : Array Slot) (st : List Value) : Prop := Go l Z n0 R_onx "com/example/vestry/vestry/ObjectName" "index" prog_58_method_12_code 1 (some .int) (IW Z EL s₀ lo Sf) (FW Z EL s₀ n0 R_onx Q) h cells slots pc Ls st
theorem pf_onx : plainFor (⟨"com/example/vestry/vestry/ObjectName", "index", "()I"⟩ : MethodName) = true := plainFor_of_name (by first | (simp [plainName, overriddenIn]; done) | decide +kernel)
theorem ct_onx (l : Launch) (Z : State) (a0 : Array Value) (hw : ∀ d ∈ tables_1, d.before a0 Z = true) (n0 : Nat) (o : Addr) (h0 : Heap) (F : Fld Z h0 o "com/example/vestry/vestry/ObjectName" "index" "I" (.int (0 : Int32))) : Ct l Z n0 "com/example/vestry/vestry/ObjectName" "index" "()I" [] prog_58_method_12_code 1 (some .int) R_onx #[.ref o] h0 (fun v h => v = some (.int (0 : Int32)) ∧ h0 = h) := by
  refine Ct.of_go pf_onx (Ls := #[.val (.ref o)]) (fun m => by first | rfl | (simp [entryFrame, mkF, argsToLocals, Value.category]; done)) ?_
  show GM_onx l Z n0 (fun v h => v = some (.int (0 : Int32)) ∧ h0 = h) h0 0 0 0 #[.val (.ref o)] []
  refine Go.aloadN d_onx_0 rfl rfl ?_
  refine Go.getF (wd_52 hw) Via.refl F d_onx_1 ?_
  -- at pc 4: pc 4: ireturn .ireturn stack [(.int (0 : Int32))]
  exact Go.ireturn d_onx_4 rfl (by decide) (by decide) ⟨rfl, rfl⟩
theorem own_k91 : (([91] : List Int32).map own_b) = [91] := by decide
theorem own_k93 : (([93] : List Int32).map own_b) = [93] := by decide
theorem own_k34 : (([34] : List Int32).map own_b) = [34] := by decide
theorem own_k32 : (([32, 34] : List Int32).map own_b) = [32, 34] := by decide
theorem Lat.k91 : Lat [91] := Lat.cons (by decide) Lat.nil
theorem Lat.k93 : Lat [93] := Lat.cons (by decide) Lat.nil
theorem Lat.k34 : Lat [34] := Lat.cons (by decide) Lat.nil
theorem Lat.k32 : Lat [32, 34] := Lat.cons (by decide) Lat.k34
theorem Chr.k91 : Chr [91] := Chr.cons (by decide) Chr.nil
theorem Chr.k93 : Chr [93] := Chr.cons (by decide) Chr.nil
theorem Chr.k34 : Chr [34] := Chr.cons (by decide) Chr.nil
theorem Chr.k32 : Chr [32, 34] := Chr.cons (by decide) Chr.k34
theorem Chr.k48 : Chr [48] := Chr.cons (by decide) Chr.nil
theorem d_text_0 : decode prog_58_method_5_code 0 = .ok (.aload_n 0, 1) := by decide +kernel
theorem d_text_1 : decode prog_58_method_5_code 1 = .ok (.getfield 17, 3) := by decide +kernel
theorem d_text_4 : decode prog_58_method_5_code 4 = .ok (.ifnonnull 41, 3) := by decide +kernel
theorem d_text_7 : decode prog_58_method_5_code 7 = .ok (.new 27, 3) := by decide +kernel
theorem d_text_10 : decode prog_58_method_5_code 10 = .ok (.dup, 1) := by decide +kernel
theorem d_text_11 : decode prog_58_method_5_code 11 = .ok (.invokespecial 29, 3) := by decide +kernel
theorem d_text_14 : decode prog_58_method_5_code 14 = .ok (.aload_n 0, 1) := by decide +kernel
theorem d_text_15 : decode prog_58_method_5_code 15 = .ok (.getfield 13, 3) := by decide +kernel
theorem d_text_18 : decode prog_58_method_5_code 18 = .ok (.invokevirtual 36, 3) := by decide +kernel
theorem d_text_21 : decode prog_58_method_5_code 21 = .ok (.ldc 46, 2) := by decide +kernel
theorem d_text_23 : decode prog_58_method_5_code 23 = .ok (.invokevirtual 36, 3) := by decide +kernel
theorem d_text_26 : decode prog_58_method_5_code 26 = .ok (.aload_n 0, 1) := by decide +kernel
theorem d_text_27 : decode prog_58_method_5_code 27 = .ok (.getfield 20, 3) := by decide +kernel
theorem d_text_30 : decode prog_58_method_5_code 30 = .ok (.invokevirtual 48, 3) := by decide +kernel
theorem d_text_33 : decode prog_58_method_5_code 33 = .ok (.ldc 51, 2) := by decide +kernel
theorem d_text_35 : decode prog_58_method_5_code 35 = .ok (.invokevirtual 36, 3) := by decide +kernel
theorem d_text_38 : decode prog_58_method_5_code 38 = .ok (.invokevirtual 43, 3) := by decide +kernel
theorem d_text_41 : decode prog_58_method_5_code 41 = .ok (.astore_n 1, 1) := by decide +kernel
theorem d_text_42 : decode prog_58_method_5_code 42 = .ok (.goto 38, 3) := by decide +kernel
theorem d_text_45 : decode prog_58_method_5_code 45 = .ok (.new 27, 3) := by decide +kernel
theorem d_text_48 : decode prog_58_method_5_code 48 = .ok (.dup, 1) := by decide +kernel
theorem d_text_49 : decode prog_58_method_5_code 49 = .ok (.invokespecial 29, 3) := by decide +kernel
theorem d_text_52 : decode prog_58_method_5_code 52 = .ok (.aload_n 0, 1) := by decide +kernel
theorem d_text_53 : decode prog_58_method_5_code 53 = .ok (.getfield 13, 3) := by decide +kernel
theorem d_text_56 : decode prog_58_method_5_code 56 = .ok (.invokevirtual 36, 3) := by decide +kernel
theorem d_text_59 : decode prog_58_method_5_code 59 = .ok (.ldc 53, 2) := by decide +kernel
theorem d_text_61 : decode prog_58_method_5_code 61 = .ok (.invokevirtual 36, 3) := by decide +kernel
theorem d_text_64 : decode prog_58_method_5_code 64 = .ok (.aload_n 0, 1) := by decide +kernel
theorem d_text_65 : decode prog_58_method_5_code 65 = .ok (.getfield 17, 3) := by decide +kernel
theorem d_text_68 : decode prog_58_method_5_code 68 = .ok (.invokevirtual 36, 3) := by decide +kernel
theorem d_text_71 : decode prog_58_method_5_code 71 = .ok (.ldc 55, 2) := by decide +kernel
theorem d_text_73 : decode prog_58_method_5_code 73 = .ok (.invokevirtual 36, 3) := by decide +kernel
theorem d_text_76 : decode prog_58_method_5_code 76 = .ok (.invokevirtual 43, 3) := by decide +kernel
theorem d_text_79 : decode prog_58_method_5_code 79 = .ok (.astore_n 1, 1) := by decide +kernel
theorem d_text_80 : decode prog_58_method_5_code 80 = .ok (.aload_n 1, 1) := by decide +kernel
theorem d_text_81 : decode prog_58_method_5_code 81 = .ok (.astore_n 2, 1) := by decide +kernel
theorem d_text_82 : decode prog_58_method_5_code 82 = .ok (.aload_n 0, 1) := by decide +kernel
theorem d_text_83 : decode prog_58_method_5_code 83 = .ok (.getfield 7, 3) := by decide +kernel
theorem d_text_86 : decode prog_58_method_5_code 86 = .ok (.ifnull 33, 3) := by decide +kernel
theorem d_text_119 : decode prog_58_method_5_code 119 = .ok (.aload_n 2, 1) := by decide +kernel
theorem d_text_120 : decode prog_58_method_5_code 120 = .ok (.areturn, 1) := by decide +kernel
abbrev R_text : Room := ({ frames := 10, cells := 12, slots := 204, locals := 150 } : Room)
abbrev GM_text (l : Launch) (Z : State) (n0 : Nat) (Q : Option Value → Heap → Prop) (h : Heap) (cells slots pc : Nat) (Ls : Array Slot) (st : List Value) : Prop := Go l Z n0 R_text "com/example/vestry/vestry/ObjectName" "text" prog_58_method_5_code 3 (some (.object "java/lang/String")) IN (FN n0 R_text Q) h cells slots pc Ls st
abbrev GW_text (l : Launch) (Z : State) (EL : List (String × Nat)) (s₀ : State) (n0 : Nat) (Q : Option Value → Heap → Prop) (lo : Nat) (Sf : List Addr) (h : Heap) (cells slots pc : Nat) (Ls : Array Slot) (st : List Value) : Prop := Go l Z n0 R_text "com/example/vestry/vestry/ObjectName" "text" prog_58_method_5_code 3 (some (.object "java/lang/String")) (IW Z EL s₀ lo Sf) (FW Z EL s₀ n0 R_text Q) h cells slots pc Ls st
theorem pf_text : plainFor (⟨"com/example/vestry/vestry/ObjectName", "text", "()Ljava/lang/String;"⟩ : MethodName) = true := plainFor_of_name (by first | (simp [plainName, overriddenIn]; done) | decide +kernel)
set_option maxRecDepth 65536 in
set_option maxHeartbeats 4000000 in
theorem ctw_textN (l : Launch) (Z : State) (a0 : Array Value) (hw : ∀ d ∈ tables_1, d.before a0 Z = true) (n0 : Nat) (o x t : Addr) (kt : ClassId) (ds : List Int32) (h0 : Heap) (hz : n0 ≤ h0.size) (O : Old Z n0 h0) (z : Int32) (S_cs : Sta Z Z.heap "java/lang/String" "COMPACT_STRINGS" "Z" (.int z)) (hcs : ¬ z = 0) (S_ad : Sta Z Z.heap "java/lang/StringUTF16" "$assertionsDisabled" "Z" (.int (1 : Int32))) (S_hi : Sta Z Z.heap "java/lang/StringUTF16" "HI_BYTE_SHIFT" "I" (.int (0 : Int32))) (S_lo : Sta Z Z.heap "java/lang/StringUTF16" "LO_BYTE_SHIFT" "I" (.int (8 : Int32))) (vf : Value) (hvf : vf.isRef = true) (S_f : Sta Z Z.heap "jdk/internal/util/Preconditions" "SIOOBE_FORMATTER" "Ljava/util/function/BiFunction;" vf) (dg : Addr) (kd : ClassId) (vd : List Value) (S_dg : Sta Z Z.heap "java/lang/Integer" "DigitOnes" "[B" (.ref dg)) (V_dg : Arv Z Z.heap dg kd .byte (100 : Int32) vd (.int (0 : Int32))) (hd0 : vd.getD 0 (.int (0 : Int32)) = .int (48 : Int32)) (hC : Chr ds) (hl : ds.length ≤ 4) (E_o : Exa Z h0 o "com/example/vestry/vestry/ObjectName") (F1 : Fld Z h0 o "com/example/vestry/vestry/ObjectName" "within" "Lcom/example/vestry/vestry/ObjectName;" .null) (F2 : Fld Z h0 o "com/example/vestry/vestry/ObjectName" "kind" "Ljava/lang/String;" (.ref x)) (F3 : Fld Z h0 o "com/example/vestry/vestry/ObjectName" "id" "Ljava/lang/String;" .null) (F4 : Fld Z h0 o "com/example/vestry/vestry/ObjectName" "index" "I" (.int (0 : Int32))) (B : Cst Z h0 x t kt ds) :
    CtW l Z EL n0 "com/example/vestry/vestry/ObjectName" "text" "()Ljava/lang/String;" [] prog_58_method_5_code 3 (some (.object "java/lang/String")) R_text #[.ref o] h0 [] (fun v h => ∃ (r u : Addr) (k : ClassId), v = some (.ref r) ∧ Keep h0 h [] ∧ h0.size ≤ r ∧ Cst Z h r u k (((([] ++ ds) ++ [91]) ++ [48]) ++ [93])) := by
  refine CtW.of_go pf_text (Ls := #[.val (.ref o), .unset, .unset]) (fun m => by first | rfl | (simp [entryFrame, mkF, argsToLocals, Value.category]; done)) fun s₀ => ?_
  have hlo : h0.size ≤ h0.size := Nat.le_refl _
  have hEL : EW Z a0 EL := ewEL hw
  show GW_text l Z EL s₀ n0 (fun v h => ∃ (r u : Addr) (k : ClassId), v = some (.ref r) ∧ Keep h0 h [] ∧ h0.size ≤ r ∧ Cst Z h r u k (((([] ++ ds) ++ [91]) ++ [48]) ++ [93])) h0.size [] h0 0 0 0 #[.val (.ref o), .unset, .unset] []
  have KK : Keep h0 h0 [] := Keep.refl _ _
  refine Go.aloadN d_text_0 rfl rfl ?_
  refine Go.getF (wd_50 hw) Via.refl F3 d_text_1 ?_
  refine Go.nnF d_text_4 ?_
  -- at pc 7: pc 7: new .new 27 stack []
  refine Go.new (I' := IW Z EL s₀ h0.size []) (hI := wE) (wd_84 hw) (wd_85 hw) (wd_86 hw) d_text_7 (by decide) (by decide) fun hp127 sb e_sb X127 E_sb D127 => ?_
  have K127 : Keep h0 hp127 [] := (Keep.refl _ _).ext X127
  have g_sb : n0 ≤ sb := e_sb ▸ hz
  have l_sb : h0.size ≤ sb := e_sb ▸ hlo
  have s_sb : h0.size ≤ sb := e_sb ▸ KK.1
  have ne_o_sb : o ≠ sb := Nat.ne_of_lt (e_sb ▸ E_o.lt)
  have ne_x_sb : x ≠ sb := Nat.ne_of_lt (e_sb ▸ B.lt)
  have ne_t_sb : t ≠ sb := Nat.ne_of_lt (e_sb ▸ B.lt2)
  replace O := O.keep K127 (all0)
  replace E_o := E_o.keep K127
  replace F1 := F1.keep K127 nin0
  replace F2 := F2.keep K127 nin0
  replace F3 := F3.keep K127 nin0
  replace F4 := F4.keep K127 nin0
  replace B := B.keep K127 nin0 nin0
  have F_sb_value : Fld Z hp127 sb "java/lang/AbstractStringBuilder" "value" "[B" .null := D127 (Or.inl (wd_99 hw)) (ty := (.array .byte)) (by decide)
  have F_sb_coder : Fld Z hp127 sb "java/lang/AbstractStringBuilder" "coder" "B" (.int (0 : Int32)) := D127 (Or.inl (wd_101 hw)) (ty := .byte) (by decide)
  have F_sb_count : Fld Z hp127 sb "java/lang/AbstractStringBuilder" "count" "I" (.int (0 : Int32)) := D127 (Or.inl (wd_123 hw)) (ty := .int) (by decide)
  have F_sb_maybeLatin1 : Fld Z hp127 sb "java/lang/AbstractStringBuilder" "maybeLatin1" "Z" (.int (0 : Int32)) := D127 (Or.inl (wd_271 hw)) (ty := .boolean) (by decide)
  replace hz : n0 ≤ hp127.size := Nat.le_trans hz K127.1
  replace hlo : h0.size ≤ hp127.size := Nat.le_trans hlo K127.1
  replace KK : Keep h0 hp127 [] := KK.trans K127 (all0)
  refine Go.dup d_text_10 rfl ?_
  -- at pc 11: pc 11: invokespecial .invokespecial 29 stack [(.ref sb), (.ref sb)]
  have hloA := hlo
  have KKA := KK
  have lt_o := E_o.lt
  have lt_sb := E_sb.lt
  have lt_x := B.lt
  have lt_t := B.lt2
  refine Go.callI (I' := IW Z EL s₀ h0.size []) (hI := wQ (ws := [sb]) (fun v h' q => by obtain ⟨rfl, K128, va, kv, g_va, sz_va, S1⟩ := q; exact K128) (allS (Sb.exa E_sb (by decide) (by decide)) all0)) sb [] [(.ref sb)] (ct_sbi l Z a0 hw n0 sb _ hz O z S_cs hcs g_sb E_sb F_sb_value F_sb_coder F_sb_count F_sb_maybeLatin1) (wd_87 hw) (wd_88 hw) (wd_86 hw) (wd_89 hw) (by decide) pd_28 rfl rfl rfl (Nat.le_of_ble_eq_true rfl) (Nat.le_of_ble_eq_true rfl) (Nat.le_of_ble_eq_true rfl) (Nat.le_of_ble_eq_true rfl) d_text_11 ?_
  rintro _ hp128 ⟨rfl, K128, va, kv, g_va, sz_va, S1⟩
  replace O := O.keep K128 (allS g_sb (all0))
  replace E_o := E_o.keep K128
  replace F1 := F1.keep K128 (ninS ne_o_sb nin0)
  replace F2 := F2.keep K128 (ninS ne_o_sb nin0)
  replace F3 := F3.keep K128 (ninS ne_o_sb nin0)
  replace F4 := F4.keep K128 (ninS ne_o_sb nin0)
  replace B := B.keep K128 (ninS ne_x_sb nin0) (ninS ne_t_sb nin0)
  replace E_sb := E_sb.keep K128
  replace hz : n0 ≤ hp128.size := Nat.le_trans hz K128.1
  replace hlo : h0.size ≤ hp128.size := Nat.le_trans hlo K128.1
  replace KK : Keep h0 hp128 [] := KK.trans K128 (allS (Or.inr s_sb) (all0))
  show GW_text l Z EL s₀ n0 (fun v h => ∃ (r u : Addr) (k : ClassId), v = some (.ref r) ∧ Keep h0 h [] ∧ h0.size ≤ r ∧ Cst Z h r u k (((([] ++ ds) ++ [91]) ++ [48]) ++ [93])) h0.size [] hp128 2 20 14 #[.val (.ref o), .unset, .unset] [(.ref sb)]
  have l_va : h0.size ≤ va := Nat.le_trans hloA sz_va
  have s_va : h0.size ≤ va := Nat.le_trans KKA.1 sz_va
  have ne_o_va : o ≠ va := (Nat.ne_of_lt (Nat.lt_of_lt_of_le lt_o sz_va))
  have ne_sb_va : sb ≠ va := (Nat.ne_of_lt (Nat.lt_of_lt_of_le lt_sb sz_va))
  have ne_x_va : x ≠ va := (Nat.ne_of_lt (Nat.lt_of_lt_of_le lt_x sz_va))
  have ne_t_va : t ≠ va := (Nat.ne_of_lt (Nat.lt_of_lt_of_le lt_t sz_va))
  have S2 : Cbd Z hp128 sb va kv [] := Or.inl ⟨Lat.nil, S1⟩
  refine Go.aloadN d_text_14 rfl rfl ?_
  refine Go.getF (wd_48 hw) Via.refl F2 d_text_15 ?_
  -- at pc 18: pc 18: invokevirtual .invokevirtual 36 stack [(.ref x), (.ref sb)]
  have hloB := hlo
  have KKB := KK
  have lt_oB := E_o.lt
  refine Go.callV (I' := IW Z EL s₀ h0.size []) (hI := wQ (ws := [sb, va]) (fun v h' q => by obtain ⟨rfl, K129, vb, kb, g_vb, o_vb, n_vb, S3⟩ := q; exact K129) (allS (Sb.exa E_sb (by decide) (by decide)) (allS (Sb.up l_va) all0))) sb [(.ref x)] [] (ct_apC l Z a0 hw n0 sb va x t kv kt [] ds _ hz O z S_cs hcs S_ad S_hi S_lo vf hvf S_f g_sb g_va ne_sb_va ne_t_va ne_x_sb ne_t_sb Chr.nil hC S2 B (by simp only [List.length_append, List.length_cons, List.length_nil]; omega)) E_sb (wd_102 hw) (wd_103 hw) (nf_sel (wd_105 hw)) (wd_105 hw) (wd_104 hw) (wd_86 hw) (wd_106 hw) (by decide) pd_34 rfl rfl rfl (Nat.le_of_ble_eq_true rfl) (Nat.le_of_ble_eq_true rfl) (Nat.le_of_ble_eq_true rfl) (Nat.le_of_ble_eq_true rfl) d_text_18 ?_
  rintro _ hp129 ⟨rfl, K129, vb, kb, g_vb, o_vb, n_vb, S3⟩
  replace O := O.keep K129 (allS g_sb (allS g_va (all0)))
  replace E_o := E_o.keep K129
  replace F1 := F1.keep K129 (ninS ne_o_sb (ninS ne_o_va nin0))
  replace F2 := F2.keep K129 (ninS ne_o_sb (ninS ne_o_va nin0))
  replace F3 := F3.keep K129 (ninS ne_o_sb (ninS ne_o_va nin0))
  replace F4 := F4.keep K129 (ninS ne_o_sb (ninS ne_o_va nin0))
  replace E_sb := E_sb.keep K129
  replace hz : n0 ≤ hp129.size := Nat.le_trans hz K129.1
  replace hlo : h0.size ≤ hp129.size := Nat.le_trans hlo K129.1
  replace KK : Keep h0 hp129 [] := KK.trans K129 (allS (Or.inr s_sb) (allS (Or.inr s_va) (all0)))
  show GW_text l Z EL s₀ n0 (fun v h => ∃ (r u : Addr) (k : ClassId), v = some (.ref r) ∧ Keep h0 h [] ∧ h0.size ≤ r ∧ Cst Z h r u k (((([] ++ ds) ++ [91]) ++ [48]) ++ [93])) h0.size [] hp129 3 52 21 #[.val (.ref o), .unset, .unset] [(.ref sb)]
  have l_vb : h0.size ≤ vb := o_vb.elim (fun e => by rw [e]; exact l_va) (fun q => Nat.le_trans hloB q)
  have s_vb : h0.size ≤ vb := o_vb.elim (fun e => by rw [e]; exact s_va) (fun q => Nat.le_trans KKB.1 q)
  have ne_sb_vb : sb ≠ vb := n_vb
  have ne_o_vb : o ≠ vb := (o_vb.elim (fun e => by rw [e]; exact ne_o_va) (fun q => Nat.ne_of_lt (Nat.lt_of_lt_of_le lt_oB q)))
  -- at pc 21: pc 21: ldc #46: no int constant
  refine GW.ldc [vb] (vs := [(.int (91 : Int32))]) (z := 1) hEL (wSA hw) (wd_149 hw) (by decide) ⟨by decide, by decide⟩ (by decide) rfl d_text_21 (n := 4) (by decide) (by decide) (by decide) (by decide) (allS ⟨Or.inl l_vb, S3.lt2⟩ all0) fun hp130 a1 c1 k_c1 X130 E_a1 F_a1_coder F_a1_value V_c1 ns130 nx130 => ?_
  have K130 : Keep hp129 hp130 [] := (Keep.refl _ _).ext X130
  replace O := O.keep K130 (all0)
  replace E_o := E_o.keep K130
  replace F1 := F1.keep K130 nin0
  replace F2 := F2.keep K130 nin0
  replace F3 := F3.keep K130 nin0
  replace F4 := F4.keep K130 nin0
  replace E_sb := E_sb.keep K130
  replace S3 := S3.keep K130 nin0 nin0
  replace hz : n0 ≤ hp130.size := Nat.le_trans hz K130.1
  replace hlo : h0.size ≤ hp130.size := Nat.le_trans hlo K130.1
  replace KK : Keep h0 hp130 [] := KK.trans K130 (all0)
  replace hlo : hp130.size ≤ hp130.size := Nat.le_refl _
  have ne_vb_a1 : vb ≠ a1 := (ns130 vb (by simp)).1
  have ne_vb_c1 : vb ≠ c1 := (ns130 vb (by simp)).2
  have ne_o_a1 : o ≠ a1 := (nx130 o _ E_o (by decide) (by decide)).1
  have ne_o_c1 : o ≠ c1 := (nx130 o _ E_o (by decide) (by decide)).2
  have ne_sb_a1 : sb ≠ a1 := (nx130 sb _ E_sb (by decide) (by decide)).1
  have ne_sb_c1 : sb ≠ c1 := (nx130 sb _ E_sb (by decide) (by decide)).2
  show GW_text l Z EL s₀ n0 (fun v h => ∃ (r u : Addr) (k : ClassId), v = some (.ref r) ∧ Keep h0 h [] ∧ h0.size ≤ r ∧ Cst Z h r u k (((([] ++ ds) ++ [91]) ++ [48]) ++ [93])) hp130.size [vb] hp130 5 60 23 #[.val (.ref o), .unset, .unset] [(.ref a1), (.ref sb)]
  have B1 : Byt Z hp130 a1 c1 k_c1 (([91] : List Int32).map own_b) := by rw [own_k91]; exact ⟨E_a1, F_a1_coder, F_a1_value, V_c1⟩
  -- at pc 23: pc 23: invokevirtual .invokevirtual 36 stack [(.ref a1), (.ref sb)]
  refine Go.callV (I' := IW Z EL s₀ hp130.size [vb]) (hI := wQ (ws := [sb, vb]) (fun v h' q => by obtain ⟨rfl, K131, S4⟩ := q; exact K131) (allS (Sb.exa E_sb (by decide) (by decide)) (allS (Sb.mem (by simp)) all0))) sb [(.ref a1)] [] (ct_apL l Z a0 hw n0 sb vb a1 c1 kb k_c1 ([] ++ ds) [91] _ hz O z S_cs hcs S_ad S_hi S_lo vf hvf S_f g_sb g_vb ne_sb_vb (Ne.symm ne_vb_c1) Chr.k91 Lat.k91 S3 B1 (by simp only [List.length_append, List.length_cons, List.length_nil]; omega)) E_sb (wd_102 hw) (wd_103 hw) (nf_sel (wd_105 hw)) (wd_105 hw) (wd_104 hw) (wd_86 hw) (wd_106 hw) (by decide) pd_34 rfl rfl rfl (Nat.le_of_ble_eq_true rfl) (Nat.le_of_ble_eq_true rfl) (Nat.le_of_ble_eq_true rfl) (Nat.le_of_ble_eq_true rfl) d_text_23 ?_
  rintro _ hp131 ⟨rfl, K131, S4⟩
  replace O := O.keep K131 (allS g_sb (allS g_vb (all0)))
  replace E_o := E_o.keep K131
  replace F1 := F1.keep K131 (ninS ne_o_sb (ninS ne_o_vb nin0))
  replace F2 := F2.keep K131 (ninS ne_o_sb (ninS ne_o_vb nin0))
  replace F3 := F3.keep K131 (ninS ne_o_sb (ninS ne_o_vb nin0))
  replace F4 := F4.keep K131 (ninS ne_o_sb (ninS ne_o_vb nin0))
  replace E_sb := E_sb.keep K131
  replace hz : n0 ≤ hp131.size := Nat.le_trans hz K131.1
  replace hlo : hp130.size ≤ hp131.size := Nat.le_trans hlo K131.1
  replace KK : Keep h0 hp131 [] := KK.trans K131 (allS (Or.inr s_sb) (allS (Or.inr s_vb) (all0)))
  show GW_text l Z EL s₀ n0 (fun v h => ∃ (r u : Addr) (k : ClassId), v = some (.ref r) ∧ Keep h0 h [] ∧ h0.size ≤ r ∧ Cst Z h r u k (((([] ++ ds) ++ [91]) ++ [48]) ++ [93])) hp130.size [vb] hp131 6 92 26 #[.val (.ref o), .unset, .unset] [(.ref sb)]
  refine Go.aloadN d_text_26 rfl rfl ?_
  refine Go.getF (wd_52 hw) Via.refl F4 d_text_27 ?_
  -- at pc 30: pc 30: invokevirtual .invokevirtual 48 stack [(.int (0 : Int32)), (.ref sb)]
  refine Go.callV (I' := IW Z EL s₀ hp130.size [vb]) (hI := wQ (ws := [sb, vb]) (fun v h' q => by obtain ⟨rfl, K132, S5⟩ := q; exact K132) (allS (Sb.exa E_sb (by decide) (by decide)) (allS (Sb.mem (by simp)) all0))) sb [(.int (0 : Int32))] [] (ct_apI l Z a0 hw n0 sb vb kb (([] ++ ds) ++ [91]) _ O z S_cs hcs S_ad S_hi S_lo vf hvf S_f dg kd vd S_dg V_dg hd0 g_sb g_vb ne_sb_vb S4 (by simp only [List.length_append, List.length_cons, List.length_nil]; omega)) E_sb (wd_152 hw) (wd_153 hw) (nf_sel (wd_155 hw)) (wd_155 hw) (wd_154 hw) (wd_86 hw) (wd_156 hw) (by decide) pd_35 rfl rfl rfl (Nat.le_of_ble_eq_true rfl) (Nat.le_of_ble_eq_true rfl) (Nat.le_of_ble_eq_true rfl) (Nat.le_of_ble_eq_true rfl) d_text_30 ?_
  rintro _ hp132 ⟨rfl, K132, S5⟩
  replace O := O.keep K132 (allS g_sb (allS g_vb (all0)))
  replace E_o := E_o.keep K132
  replace F1 := F1.keep K132 (ninS ne_o_sb (ninS ne_o_vb nin0))
  replace F2 := F2.keep K132 (ninS ne_o_sb (ninS ne_o_vb nin0))
  replace F3 := F3.keep K132 (ninS ne_o_sb (ninS ne_o_vb nin0))
  replace F4 := F4.keep K132 (ninS ne_o_sb (ninS ne_o_vb nin0))
  replace E_sb := E_sb.keep K132
  replace hz : n0 ≤ hp132.size := Nat.le_trans hz K132.1
  replace hlo : hp130.size ≤ hp132.size := Nat.le_trans hlo K132.1
  replace KK : Keep h0 hp132 [] := KK.trans K132 (allS (Or.inr s_sb) (allS (Or.inr s_vb) (all0)))
  show GW_text l Z EL s₀ n0 (fun v h => ∃ (r u : Addr) (k : ClassId), v = some (.ref r) ∧ Keep h0 h [] ∧ h0.size ≤ r ∧ Cst Z h r u k (((([] ++ ds) ++ [91]) ++ [48]) ++ [93])) hp130.size [vb] hp132 6 92 33 #[.val (.ref o), .unset, .unset] [(.ref sb)]
  -- at pc 33: pc 33: ldc #51: no int constant
  refine GW.ldc [vb] (vs := [(.int (93 : Int32))]) (z := 1) hEL (wSA hw) (wd_174 hw) (by decide) ⟨by decide, by decide⟩ (by decide) rfl d_text_33 (n := 4) (by decide) (by decide) (by decide) (by decide) (allS ⟨Or.inr (by simp), S5.lt2⟩ all0) fun hp133 a2 c2 k_c2 X133 E_a2 F_a2_coder F_a2_value V_c2 ns133 nx133 => ?_
  have K133 : Keep hp132 hp133 [] := (Keep.refl _ _).ext X133
  replace O := O.keep K133 (all0)
  replace E_o := E_o.keep K133
  replace F1 := F1.keep K133 nin0
  replace F2 := F2.keep K133 nin0
  replace F3 := F3.keep K133 nin0
  replace F4 := F4.keep K133 nin0
  replace E_sb := E_sb.keep K133
  replace S5 := S5.keep K133 nin0 nin0
  replace hz : n0 ≤ hp133.size := Nat.le_trans hz K133.1
  replace hlo : hp130.size ≤ hp133.size := Nat.le_trans hlo K133.1
  replace KK : Keep h0 hp133 [] := KK.trans K133 (all0)
  replace hlo : hp133.size ≤ hp133.size := Nat.le_refl _
  have ne_vb_a2 : vb ≠ a2 := (ns133 vb (by simp)).1
  have ne_vb_c2 : vb ≠ c2 := (ns133 vb (by simp)).2
  have ne_o_a2 : o ≠ a2 := (nx133 o _ E_o (by decide) (by decide)).1
  have ne_o_c2 : o ≠ c2 := (nx133 o _ E_o (by decide) (by decide)).2
  have ne_sb_a2 : sb ≠ a2 := (nx133 sb _ E_sb (by decide) (by decide)).1
  have ne_sb_c2 : sb ≠ c2 := (nx133 sb _ E_sb (by decide) (by decide)).2
  show GW_text l Z EL s₀ n0 (fun v h => ∃ (r u : Addr) (k : ClassId), v = some (.ref r) ∧ Keep h0 h [] ∧ h0.size ≤ r ∧ Cst Z h r u k (((([] ++ ds) ++ [91]) ++ [48]) ++ [93])) hp133.size [vb] hp133 8 100 35 #[.val (.ref o), .unset, .unset] [(.ref a2), (.ref sb)]
  have B2 : Byt Z hp133 a2 c2 k_c2 (([93] : List Int32).map own_b) := by rw [own_k93]; exact ⟨E_a2, F_a2_coder, F_a2_value, V_c2⟩
  -- at pc 35: pc 35: invokevirtual .invokevirtual 36 stack [(.ref a2), (.ref sb)]
  refine Go.callV (I' := IW Z EL s₀ hp133.size [vb]) (hI := wQ (ws := [sb, vb]) (fun v h' q => by obtain ⟨rfl, K134, S6⟩ := q; exact K134) (allS (Sb.exa E_sb (by decide) (by decide)) (allS (Sb.mem (by simp)) all0))) sb [(.ref a2)] [] (ct_apL l Z a0 hw n0 sb vb a2 c2 kb k_c2 ((([] ++ ds) ++ [91]) ++ [48]) [93] _ hz O z S_cs hcs S_ad S_hi S_lo vf hvf S_f g_sb g_vb ne_sb_vb (Ne.symm ne_vb_c2) Chr.k93 Lat.k93 S5 B2 (by simp only [List.length_append, List.length_cons, List.length_nil]; omega)) E_sb (wd_102 hw) (wd_103 hw) (nf_sel (wd_105 hw)) (wd_105 hw) (wd_104 hw) (wd_86 hw) (wd_106 hw) (by decide) pd_34 rfl rfl rfl (Nat.le_of_ble_eq_true rfl) (Nat.le_of_ble_eq_true rfl) (Nat.le_of_ble_eq_true rfl) (Nat.le_of_ble_eq_true rfl) d_text_35 ?_
  rintro _ hp134 ⟨rfl, K134, S6⟩
  replace O := O.keep K134 (allS g_sb (allS g_vb (all0)))
  replace E_o := E_o.keep K134
  replace F1 := F1.keep K134 (ninS ne_o_sb (ninS ne_o_vb nin0))
  replace F2 := F2.keep K134 (ninS ne_o_sb (ninS ne_o_vb nin0))
  replace F3 := F3.keep K134 (ninS ne_o_sb (ninS ne_o_vb nin0))
  replace F4 := F4.keep K134 (ninS ne_o_sb (ninS ne_o_vb nin0))
  replace E_sb := E_sb.keep K134
  replace hz : n0 ≤ hp134.size := Nat.le_trans hz K134.1
  replace hlo : hp133.size ≤ hp134.size := Nat.le_trans hlo K134.1
  replace KK : Keep h0 hp134 [] := KK.trans K134 (allS (Or.inr s_sb) (allS (Or.inr s_vb) (all0)))
  show GW_text l Z EL s₀ n0 (fun v h => ∃ (r u : Addr) (k : ClassId), v = some (.ref r) ∧ Keep h0 h [] ∧ h0.size ≤ r ∧ Cst Z h r u k (((([] ++ ds) ++ [91]) ++ [48]) ++ [93])) hp133.size [vb] hp134 9 132 38 #[.val (.ref o), .unset, .unset] [(.ref sb)]
  -- at pc 38: pc 38: invokevirtual .invokevirtual 43 stack [(.ref sb)]
  have KKC := KK
  refine Go.callV (I' := IW Z EL s₀ hp133.size [vb]) (hI := wQ (ws := []) (fun v h' q => by obtain ⟨r, u, k, rfl, K135, q1, q2, q3, q4, BR⟩ := q; exact K135) all0) sb [] [] (ct_tosC l Z a0 hw n0 sb vb kb (((([] ++ ds) ++ [91]) ++ [48]) ++ [93]) _ hz O z S_cs hcs S6 (by simp only [List.length_append, List.length_cons, List.length_nil]; omega)) E_sb (wd_175 hw) (wd_176 hw) (nf_sel (wd_178 hw)) (wd_178 hw) (wd_177 hw) (wd_86 hw) (wd_179 hw) (by decide) pd_36 rfl rfl rfl (Nat.le_of_ble_eq_true rfl) (Nat.le_of_ble_eq_true rfl) (Nat.le_of_ble_eq_true rfl) (Nat.le_of_ble_eq_true rfl) d_text_38 ?_
  rintro _ hp135 ⟨r, u, k, rfl, K135, q1, q2, q3, q4, BR⟩
  replace O := O.keep K135 (all0)
  replace E_o := E_o.keep K135
  replace F1 := F1.keep K135 nin0
  replace F2 := F2.keep K135 nin0
  replace F3 := F3.keep K135 nin0
  replace F4 := F4.keep K135 nin0
  replace E_sb := E_sb.keep K135
  replace S6 := S6.keep K135 nin0 nin0
  replace hz : n0 ≤ hp135.size := Nat.le_trans hz K135.1
  replace hlo : hp133.size ≤ hp135.size := Nat.le_trans hlo K135.1
  replace KK : Keep h0 hp135 [] := KK.trans K135 (all0)
  show GW_text l Z EL s₀ n0 (fun v h => ∃ (r u : Addr) (k : ClassId), v = some (.ref r) ∧ Keep h0 h [] ∧ h0.size ≤ r ∧ Cst Z h r u k (((([] ++ ds) ++ [91]) ++ [48]) ++ [93])) hp133.size [vb] hp135 11 168 41 #[.val (.ref o), .unset, .unset] [(.ref r)]
  refine Go.astoreN (Ls' := #[.val (.ref o), .val (.ref r), .unset]) d_text_41 rfl rfl ?_
  refine Go.goto 80 d_text_42 (by decide) (by decide) ?_
  refine Go.aloadN d_text_80 rfl rfl ?_
  refine Go.astoreN (Ls' := #[.val (.ref o), .val (.ref r), .val (.ref r)]) d_text_81 rfl rfl ?_
  refine Go.aloadN d_text_82 rfl rfl ?_
  refine Go.getF (wd_46 hw) Via.refl F1 d_text_83 ?_
  refine Go.nullT 119 d_text_86 (by decide) (by decide) ?_
  refine Go.aloadN d_text_119 rfl rfl ?_
  -- at pc 120: pc 120: areturn .areturn stack [(.ref r)]
  exact GW.areturn hEL d_text_120 rfl rfl rfl (by decide) (by decide) ⟨r, u, k, rfl, KK, Nat.le_trans KKC.1 q2, BR⟩
set_option maxRecDepth 65536 in
set_option maxHeartbeats 4000000 in
theorem ctw_textS (l : Launch) (Z : State) (a0 : Array Value) (hw : ∀ d ∈ tables_1, d.before a0 Z = true) (n0 : Nat) (o x t y w : Addr) (kt kw : ClassId) (ds es : List Int32) (h0 : Heap) (hz : n0 ≤ h0.size) (O : Old Z n0 h0) (z : Int32) (S_cs : Sta Z Z.heap "java/lang/String" "COMPACT_STRINGS" "Z" (.int z)) (hcs : ¬ z = 0) (S_ad : Sta Z Z.heap "java/lang/StringUTF16" "$assertionsDisabled" "Z" (.int (1 : Int32))) (S_hi : Sta Z Z.heap "java/lang/StringUTF16" "HI_BYTE_SHIFT" "I" (.int (0 : Int32))) (S_lo : Sta Z Z.heap "java/lang/StringUTF16" "LO_BYTE_SHIFT" "I" (.int (8 : Int32))) (vf : Value) (hvf : vf.isRef = true) (S_f : Sta Z Z.heap "jdk/internal/util/Preconditions" "SIOOBE_FORMATTER" "Ljava/util/function/BiFunction;" vf) (hC : Chr ds) (hE : Chr es) (hl : ds.length ≤ 4) (hl2 : es.length ≤ 4) (E_o : Exa Z h0 o "com/example/vestry/vestry/ObjectName") (F1 : Fld Z h0 o "com/example/vestry/vestry/ObjectName" "within" "Lcom/example/vestry/vestry/ObjectName;" .null) (F2 : Fld Z h0 o "com/example/vestry/vestry/ObjectName" "kind" "Ljava/lang/String;" (.ref x)) (F3 : Fld Z h0 o "com/example/vestry/vestry/ObjectName" "id" "Ljava/lang/String;" (.ref y)) (B : Cst Z h0 x t kt ds) (D : Cst Z h0 y w kw es) :
    CtW l Z EL n0 "com/example/vestry/vestry/ObjectName" "text" "()Ljava/lang/String;" [] prog_58_method_5_code 3 (some (.object "java/lang/String")) R_text #[.ref o] h0 [] (fun v h => ∃ (r u : Addr) (k : ClassId), v = some (.ref r) ∧ Keep h0 h [] ∧ h0.size ≤ r ∧ Cst Z h r u k (((([] ++ ds) ++ [32, 34]) ++ es) ++ [34])) := by
  refine CtW.of_go pf_text (Ls := #[.val (.ref o), .unset, .unset]) (fun m => by first | rfl | (simp [entryFrame, mkF, argsToLocals, Value.category]; done)) fun s₀ => ?_
  have hlo : h0.size ≤ h0.size := Nat.le_refl _
  have hEL : EW Z a0 EL := ewEL hw
  show GW_text l Z EL s₀ n0 (fun v h => ∃ (r u : Addr) (k : ClassId), v = some (.ref r) ∧ Keep h0 h [] ∧ h0.size ≤ r ∧ Cst Z h r u k (((([] ++ ds) ++ [32, 34]) ++ es) ++ [34])) h0.size [] h0 0 0 0 #[.val (.ref o), .unset, .unset] []
  have KK : Keep h0 h0 [] := Keep.refl _ _
  refine Go.aloadN d_text_0 rfl rfl ?_
  refine Go.getF (wd_50 hw) Via.refl F3 d_text_1 ?_
  refine Go.nnT 45 d_text_4 (by decide) (by decide) ?_
  -- at pc 45: pc 45: new .new 27 stack []
  refine Go.new (I' := IW Z EL s₀ h0.size []) (hI := wE) (wd_84 hw) (wd_85 hw) (wd_86 hw) d_text_45 (by decide) (by decide) fun hp136 sb e_sb X136 E_sb D136 => ?_
  have K136 : Keep h0 hp136 [] := (Keep.refl _ _).ext X136
  have g_sb : n0 ≤ sb := e_sb ▸ hz
  have l_sb : h0.size ≤ sb := e_sb ▸ hlo
  have s_sb : h0.size ≤ sb := e_sb ▸ KK.1
  have ne_o_sb : o ≠ sb := Nat.ne_of_lt (e_sb ▸ E_o.lt)
  have ne_x_sb : x ≠ sb := Nat.ne_of_lt (e_sb ▸ B.lt)
  have ne_t_sb : t ≠ sb := Nat.ne_of_lt (e_sb ▸ B.lt2)
  have ne_y_sb : y ≠ sb := Nat.ne_of_lt (e_sb ▸ D.lt)
  have ne_w_sb : w ≠ sb := Nat.ne_of_lt (e_sb ▸ D.lt2)
  replace O := O.keep K136 (all0)
  replace E_o := E_o.keep K136
  replace F1 := F1.keep K136 nin0
  replace F2 := F2.keep K136 nin0
  replace F3 := F3.keep K136 nin0
  replace B := B.keep K136 nin0 nin0
  replace D := D.keep K136 nin0 nin0
  have F_sb_value : Fld Z hp136 sb "java/lang/AbstractStringBuilder" "value" "[B" .null := D136 (Or.inl (wd_99 hw)) (ty := (.array .byte)) (by decide)
  have F_sb_coder : Fld Z hp136 sb "java/lang/AbstractStringBuilder" "coder" "B" (.int (0 : Int32)) := D136 (Or.inl (wd_101 hw)) (ty := .byte) (by decide)
  have F_sb_count : Fld Z hp136 sb "java/lang/AbstractStringBuilder" "count" "I" (.int (0 : Int32)) := D136 (Or.inl (wd_123 hw)) (ty := .int) (by decide)
  have F_sb_maybeLatin1 : Fld Z hp136 sb "java/lang/AbstractStringBuilder" "maybeLatin1" "Z" (.int (0 : Int32)) := D136 (Or.inl (wd_271 hw)) (ty := .boolean) (by decide)
  replace hz : n0 ≤ hp136.size := Nat.le_trans hz K136.1
  replace hlo : h0.size ≤ hp136.size := Nat.le_trans hlo K136.1
  replace KK : Keep h0 hp136 [] := KK.trans K136 (all0)
  refine Go.dup d_text_48 rfl ?_
  -- at pc 49: pc 49: invokespecial .invokespecial 29 stack [(.ref sb), (.ref sb)]
  have hloA := hlo
  have KKA := KK
  have lt_o := E_o.lt
  have lt_sb := E_sb.lt
  have lt_x := B.lt
  have lt_t := B.lt2
  have lt_y := D.lt
  have lt_w := D.lt2
  refine Go.callI (I' := IW Z EL s₀ h0.size []) (hI := wQ (ws := [sb]) (fun v h' q => by obtain ⟨rfl, K137, va, kv, g_va, sz_va, S1⟩ := q; exact K137) (allS (Sb.exa E_sb (by decide) (by decide)) all0)) sb [] [(.ref sb)] (ct_sbi l Z a0 hw n0 sb _ hz O z S_cs hcs g_sb E_sb F_sb_value F_sb_coder F_sb_count F_sb_maybeLatin1) (wd_87 hw) (wd_88 hw) (wd_86 hw) (wd_89 hw) (by decide) pd_28 rfl rfl rfl (Nat.le_of_ble_eq_true rfl) (Nat.le_of_ble_eq_true rfl) (Nat.le_of_ble_eq_true rfl) (Nat.le_of_ble_eq_true rfl) d_text_49 ?_
  rintro _ hp137 ⟨rfl, K137, va, kv, g_va, sz_va, S1⟩
  replace O := O.keep K137 (allS g_sb (all0))
  replace E_o := E_o.keep K137
  replace F1 := F1.keep K137 (ninS ne_o_sb nin0)
  replace F2 := F2.keep K137 (ninS ne_o_sb nin0)
  replace F3 := F3.keep K137 (ninS ne_o_sb nin0)
  replace B := B.keep K137 (ninS ne_x_sb nin0) (ninS ne_t_sb nin0)
  replace D := D.keep K137 (ninS ne_y_sb nin0) (ninS ne_w_sb nin0)
  replace E_sb := E_sb.keep K137
  replace hz : n0 ≤ hp137.size := Nat.le_trans hz K137.1
  replace hlo : h0.size ≤ hp137.size := Nat.le_trans hlo K137.1
  replace KK : Keep h0 hp137 [] := KK.trans K137 (allS (Or.inr s_sb) (all0))
  show GW_text l Z EL s₀ n0 (fun v h => ∃ (r u : Addr) (k : ClassId), v = some (.ref r) ∧ Keep h0 h [] ∧ h0.size ≤ r ∧ Cst Z h r u k (((([] ++ ds) ++ [32, 34]) ++ es) ++ [34])) h0.size [] hp137 2 20 52 #[.val (.ref o), .unset, .unset] [(.ref sb)]
  have l_va : h0.size ≤ va := Nat.le_trans hloA sz_va
  have s_va : h0.size ≤ va := Nat.le_trans KKA.1 sz_va
  have ne_o_va : o ≠ va := (Nat.ne_of_lt (Nat.lt_of_lt_of_le lt_o sz_va))
  have ne_sb_va : sb ≠ va := (Nat.ne_of_lt (Nat.lt_of_lt_of_le lt_sb sz_va))
  have ne_x_va : x ≠ va := (Nat.ne_of_lt (Nat.lt_of_lt_of_le lt_x sz_va))
  have ne_t_va : t ≠ va := (Nat.ne_of_lt (Nat.lt_of_lt_of_le lt_t sz_va))
  have ne_y_va : y ≠ va := (Nat.ne_of_lt (Nat.lt_of_lt_of_le lt_y sz_va))
  have ne_w_va : w ≠ va := (Nat.ne_of_lt (Nat.lt_of_lt_of_le lt_w sz_va))
  have S2 : Cbd Z hp137 sb va kv [] := Or.inl ⟨Lat.nil, S1⟩
  refine Go.aloadN d_text_52 rfl rfl ?_
  refine Go.getF (wd_48 hw) Via.refl F2 d_text_53 ?_
  -- at pc 56: pc 56: invokevirtual .invokevirtual 36 stack [(.ref x), (.ref sb)]
  have hloB := hlo
  have KKB := KK
  have lt_oB := E_o.lt
  have lt_yB := D.lt
  have lt_wB := D.lt2
  refine Go.callV (I' := IW Z EL s₀ h0.size []) (hI := wQ (ws := [sb, va]) (fun v h' q => by obtain ⟨rfl, K138, vb, kb, g_vb, o_vb, n_vb, S3⟩ := q; exact K138) (allS (Sb.exa E_sb (by decide) (by decide)) (allS (Sb.up l_va) all0))) sb [(.ref x)] [] (ct_apC l Z a0 hw n0 sb va x t kv kt [] ds _ hz O z S_cs hcs S_ad S_hi S_lo vf hvf S_f g_sb g_va ne_sb_va ne_t_va ne_x_sb ne_t_sb Chr.nil hC S2 B (by simp only [List.length_append, List.length_cons, List.length_nil]; omega)) E_sb (wd_102 hw) (wd_103 hw) (nf_sel (wd_105 hw)) (wd_105 hw) (wd_104 hw) (wd_86 hw) (wd_106 hw) (by decide) pd_34 rfl rfl rfl (Nat.le_of_ble_eq_true rfl) (Nat.le_of_ble_eq_true rfl) (Nat.le_of_ble_eq_true rfl) (Nat.le_of_ble_eq_true rfl) d_text_56 ?_
  rintro _ hp138 ⟨rfl, K138, vb, kb, g_vb, o_vb, n_vb, S3⟩
  replace O := O.keep K138 (allS g_sb (allS g_va (all0)))
  replace E_o := E_o.keep K138
  replace F1 := F1.keep K138 (ninS ne_o_sb (ninS ne_o_va nin0))
  replace F2 := F2.keep K138 (ninS ne_o_sb (ninS ne_o_va nin0))
  replace F3 := F3.keep K138 (ninS ne_o_sb (ninS ne_o_va nin0))
  replace D := D.keep K138 (ninS ne_y_sb (ninS ne_y_va nin0)) (ninS ne_w_sb (ninS ne_w_va nin0))
  replace E_sb := E_sb.keep K138
  replace hz : n0 ≤ hp138.size := Nat.le_trans hz K138.1
  replace hlo : h0.size ≤ hp138.size := Nat.le_trans hlo K138.1
  replace KK : Keep h0 hp138 [] := KK.trans K138 (allS (Or.inr s_sb) (allS (Or.inr s_va) (all0)))
  show GW_text l Z EL s₀ n0 (fun v h => ∃ (r u : Addr) (k : ClassId), v = some (.ref r) ∧ Keep h0 h [] ∧ h0.size ≤ r ∧ Cst Z h r u k (((([] ++ ds) ++ [32, 34]) ++ es) ++ [34])) h0.size [] hp138 3 52 59 #[.val (.ref o), .unset, .unset] [(.ref sb)]
  have l_vb : h0.size ≤ vb := o_vb.elim (fun e => by rw [e]; exact l_va) (fun q => Nat.le_trans hloB q)
  have s_vb : h0.size ≤ vb := o_vb.elim (fun e => by rw [e]; exact s_va) (fun q => Nat.le_trans KKB.1 q)
  have ne_sb_vb : sb ≠ vb := n_vb
  have ne_o_vb : o ≠ vb := (o_vb.elim (fun e => by rw [e]; exact ne_o_va) (fun q => Nat.ne_of_lt (Nat.lt_of_lt_of_le lt_oB q)))
  have ne_y_vb : y ≠ vb := (o_vb.elim (fun e => by rw [e]; exact ne_y_va) (fun q => Nat.ne_of_lt (Nat.lt_of_lt_of_le lt_yB q)))
  have ne_w_vb : w ≠ vb := (o_vb.elim (fun e => by rw [e]; exact ne_w_va) (fun q => Nat.ne_of_lt (Nat.lt_of_lt_of_le lt_wB q)))
  -- at pc 59: pc 59: ldc #53: no int constant
  refine GW.ldc [vb] (vs := [(.int (32 : Int32)), (.int (34 : Int32))]) (z := 2) hEL (wSA hw) (wd_221 hw) (by decide) ⟨by decide, by decide⟩ (by decide) rfl d_text_59 (n := 8) (by decide) (by decide) (by decide) (by decide) (allS ⟨Or.inl l_vb, S3.lt2⟩ all0) fun hp139 a1 c1 k_c1 X139 E_a1 F_a1_coder F_a1_value V_c1 ns139 nx139 => ?_
  have K139 : Keep hp138 hp139 [] := (Keep.refl _ _).ext X139
  replace O := O.keep K139 (all0)
  replace E_o := E_o.keep K139
  replace F1 := F1.keep K139 nin0
  replace F2 := F2.keep K139 nin0
  replace F3 := F3.keep K139 nin0
  replace D := D.keep K139 nin0 nin0
  replace E_sb := E_sb.keep K139
  replace S3 := S3.keep K139 nin0 nin0
  replace hz : n0 ≤ hp139.size := Nat.le_trans hz K139.1
  replace hlo : h0.size ≤ hp139.size := Nat.le_trans hlo K139.1
  replace KK : Keep h0 hp139 [] := KK.trans K139 (all0)
  replace hlo : hp139.size ≤ hp139.size := Nat.le_refl _
  have ne_vb_a1 : vb ≠ a1 := (ns139 vb (by simp)).1
  have ne_vb_c1 : vb ≠ c1 := (ns139 vb (by simp)).2
  have ne_o_a1 : o ≠ a1 := (nx139 o _ E_o (by decide) (by decide)).1
  have ne_o_c1 : o ≠ c1 := (nx139 o _ E_o (by decide) (by decide)).2
  have ne_sb_a1 : sb ≠ a1 := (nx139 sb _ E_sb (by decide) (by decide)).1
  have ne_sb_c1 : sb ≠ c1 := (nx139 sb _ E_sb (by decide) (by decide)).2
  show GW_text l Z EL s₀ n0 (fun v h => ∃ (r u : Addr) (k : ClassId), v = some (.ref r) ∧ Keep h0 h [] ∧ h0.size ≤ r ∧ Cst Z h r u k (((([] ++ ds) ++ [32, 34]) ++ es) ++ [34])) hp139.size [vb] hp139 5 64 61 #[.val (.ref o), .unset, .unset] [(.ref a1), (.ref sb)]
  have B1 : Byt Z hp139 a1 c1 k_c1 (([32, 34] : List Int32).map own_b) := by rw [own_k32]; exact ⟨E_a1, F_a1_coder, F_a1_value, V_c1⟩
  -- at pc 61: pc 61: invokevirtual .invokevirtual 36 stack [(.ref a1), (.ref sb)]
  refine Go.callV (I' := IW Z EL s₀ hp139.size [vb]) (hI := wQ (ws := [sb, vb]) (fun v h' q => by obtain ⟨rfl, K140, S4⟩ := q; exact K140) (allS (Sb.exa E_sb (by decide) (by decide)) (allS (Sb.mem (by simp)) all0))) sb [(.ref a1)] [] (ct_apL l Z a0 hw n0 sb vb a1 c1 kb k_c1 ([] ++ ds) [32, 34] _ hz O z S_cs hcs S_ad S_hi S_lo vf hvf S_f g_sb g_vb ne_sb_vb (Ne.symm ne_vb_c1) Chr.k32 Lat.k32 S3 B1 (by simp only [List.length_append, List.length_cons, List.length_nil]; omega)) E_sb (wd_102 hw) (wd_103 hw) (nf_sel (wd_105 hw)) (wd_105 hw) (wd_104 hw) (wd_86 hw) (wd_106 hw) (by decide) pd_34 rfl rfl rfl (Nat.le_of_ble_eq_true rfl) (Nat.le_of_ble_eq_true rfl) (Nat.le_of_ble_eq_true rfl) (Nat.le_of_ble_eq_true rfl) d_text_61 ?_
  rintro _ hp140 ⟨rfl, K140, S4⟩
  replace O := O.keep K140 (allS g_sb (allS g_vb (all0)))
  replace E_o := E_o.keep K140
  replace F1 := F1.keep K140 (ninS ne_o_sb (ninS ne_o_vb nin0))
  replace F2 := F2.keep K140 (ninS ne_o_sb (ninS ne_o_vb nin0))
  replace F3 := F3.keep K140 (ninS ne_o_sb (ninS ne_o_vb nin0))
  replace D := D.keep K140 (ninS ne_y_sb (ninS ne_y_vb nin0)) (ninS ne_w_sb (ninS ne_w_vb nin0))
  replace E_sb := E_sb.keep K140
  replace hz : n0 ≤ hp140.size := Nat.le_trans hz K140.1
  replace hlo : hp139.size ≤ hp140.size := Nat.le_trans hlo K140.1
  replace KK : Keep h0 hp140 [] := KK.trans K140 (allS (Or.inr s_sb) (allS (Or.inr s_vb) (all0)))
  show GW_text l Z EL s₀ n0 (fun v h => ∃ (r u : Addr) (k : ClassId), v = some (.ref r) ∧ Keep h0 h [] ∧ h0.size ≤ r ∧ Cst Z h r u k (((([] ++ ds) ++ [32, 34]) ++ es) ++ [34])) hp139.size [vb] hp140 6 96 64 #[.val (.ref o), .unset, .unset] [(.ref sb)]
  refine Go.aloadN d_text_64 rfl rfl ?_
  refine Go.getF (wd_50 hw) Via.refl F3 d_text_65 ?_
  -- at pc 68: pc 68: invokevirtual .invokevirtual 36 stack [(.ref y), (.ref sb)]
  have hloC := hlo
  have KKC := KK
  have lt_oC := E_o.lt
  refine Go.callV (I' := IW Z EL s₀ hp139.size [vb]) (hI := wQ (ws := [sb, vb]) (fun v h' q => by obtain ⟨rfl, K141, vc, kc, g_vc, o_vc, n_vc, S5⟩ := q; exact K141) (allS (Sb.exa E_sb (by decide) (by decide)) (allS (Sb.mem (by simp)) all0))) sb [(.ref y)] [] (ct_apC l Z a0 hw n0 sb vb y w kb kw (([] ++ ds) ++ [32, 34]) es _ hz O z S_cs hcs S_ad S_hi S_lo vf hvf S_f g_sb g_vb ne_sb_vb ne_w_vb ne_y_sb ne_w_sb ((Chr.nil.app hC).app Chr.k32) hE S4 D (by simp only [List.length_append, List.length_cons, List.length_nil]; omega)) E_sb (wd_102 hw) (wd_103 hw) (nf_sel (wd_105 hw)) (wd_105 hw) (wd_104 hw) (wd_86 hw) (wd_106 hw) (by decide) pd_34 rfl rfl rfl (Nat.le_of_ble_eq_true rfl) (Nat.le_of_ble_eq_true rfl) (Nat.le_of_ble_eq_true rfl) (Nat.le_of_ble_eq_true rfl) d_text_68 ?_
  rintro _ hp141 ⟨rfl, K141, vc, kc, g_vc, o_vc, n_vc, S5⟩
  replace O := O.keep K141 (allS g_sb (allS g_vb (all0)))
  replace E_o := E_o.keep K141
  replace F1 := F1.keep K141 (ninS ne_o_sb (ninS ne_o_vb nin0))
  replace F2 := F2.keep K141 (ninS ne_o_sb (ninS ne_o_vb nin0))
  replace F3 := F3.keep K141 (ninS ne_o_sb (ninS ne_o_vb nin0))
  replace E_sb := E_sb.keep K141
  replace hz : n0 ≤ hp141.size := Nat.le_trans hz K141.1
  replace hlo : hp139.size ≤ hp141.size := Nat.le_trans hlo K141.1
  replace KK : Keep h0 hp141 [] := KK.trans K141 (allS (Or.inr s_sb) (allS (Or.inr s_vb) (all0)))
  show GW_text l Z EL s₀ n0 (fun v h => ∃ (r u : Addr) (k : ClassId), v = some (.ref r) ∧ Keep h0 h [] ∧ h0.size ≤ r ∧ Cst Z h r u k (((([] ++ ds) ++ [32, 34]) ++ es) ++ [34])) hp139.size [vb] hp141 7 128 71 #[.val (.ref o), .unset, .unset] [(.ref sb)]
  have w_vc : hp139.size ≤ vc ∨ vc ∈ [vb] := o_vc.elim (fun e => Or.inr (by rw [e]; exact List.mem_singleton.mpr rfl)) (fun q => Or.inl (Nat.le_trans hloC q))
  have s_vc : h0.size ≤ vc := o_vc.elim (fun e => by rw [e]; exact s_vb) (fun q => Nat.le_trans KKC.1 q)
  have ne_sb_vc : sb ≠ vc := n_vc
  have ne_o_vc : o ≠ vc := (o_vc.elim (fun e => by rw [e]; exact ne_o_vb) (fun q => Nat.ne_of_lt (Nat.lt_of_lt_of_le lt_oC q)))
  -- at pc 71: pc 71: ldc #55: no int constant
  refine GW.ldc [vc] (vs := [(.int (34 : Int32))]) (z := 1) hEL (wSA hw) (wd_222 hw) (by decide) ⟨by decide, by decide⟩ (by decide) rfl d_text_71 (n := 4) (by decide) (by decide) (by decide) (by decide) (allS ⟨w_vc, S5.lt2⟩ all0) fun hp142 a2 c2 k_c2 X142 E_a2 F_a2_coder F_a2_value V_c2 ns142 nx142 => ?_
  have K142 : Keep hp141 hp142 [] := (Keep.refl _ _).ext X142
  replace O := O.keep K142 (all0)
  replace E_o := E_o.keep K142
  replace F1 := F1.keep K142 nin0
  replace F2 := F2.keep K142 nin0
  replace F3 := F3.keep K142 nin0
  replace E_sb := E_sb.keep K142
  replace S5 := S5.keep K142 nin0 nin0
  replace hz : n0 ≤ hp142.size := Nat.le_trans hz K142.1
  replace hlo : hp139.size ≤ hp142.size := Nat.le_trans hlo K142.1
  replace KK : Keep h0 hp142 [] := KK.trans K142 (all0)
  replace hlo : hp142.size ≤ hp142.size := Nat.le_refl _
  have ne_vc_a2 : vc ≠ a2 := (ns142 vc (by simp)).1
  have ne_vc_c2 : vc ≠ c2 := (ns142 vc (by simp)).2
  have ne_o_a2 : o ≠ a2 := (nx142 o _ E_o (by decide) (by decide)).1
  have ne_o_c2 : o ≠ c2 := (nx142 o _ E_o (by decide) (by decide)).2
  have ne_sb_a2 : sb ≠ a2 := (nx142 sb _ E_sb (by decide) (by decide)).1
  have ne_sb_c2 : sb ≠ c2 := (nx142 sb _ E_sb (by decide) (by decide)).2
  show GW_text l Z EL s₀ n0 (fun v h => ∃ (r u : Addr) (k : ClassId), v = some (.ref r) ∧ Keep h0 h [] ∧ h0.size ≤ r ∧ Cst Z h r u k (((([] ++ ds) ++ [32, 34]) ++ es) ++ [34])) hp142.size [vc] hp142 9 136 73 #[.val (.ref o), .unset, .unset] [(.ref a2), (.ref sb)]
  have B2 : Byt Z hp142 a2 c2 k_c2 (([34] : List Int32).map own_b) := by rw [own_k34]; exact ⟨E_a2, F_a2_coder, F_a2_value, V_c2⟩
  -- at pc 73: pc 73: invokevirtual .invokevirtual 36 stack [(.ref a2), (.ref sb)]
  refine Go.callV (I' := IW Z EL s₀ hp142.size [vc]) (hI := wQ (ws := [sb, vc]) (fun v h' q => by obtain ⟨rfl, K143, S6⟩ := q; exact K143) (allS (Sb.exa E_sb (by decide) (by decide)) (allS (Sb.mem (by simp)) all0))) sb [(.ref a2)] [] (ct_apL l Z a0 hw n0 sb vc a2 c2 kc k_c2 ((([] ++ ds) ++ [32, 34]) ++ es) [34] _ hz O z S_cs hcs S_ad S_hi S_lo vf hvf S_f g_sb g_vc ne_sb_vc (Ne.symm ne_vc_c2) Chr.k34 Lat.k34 S5 B2 (by simp only [List.length_append, List.length_cons, List.length_nil]; omega)) E_sb (wd_102 hw) (wd_103 hw) (nf_sel (wd_105 hw)) (wd_105 hw) (wd_104 hw) (wd_86 hw) (wd_106 hw) (by decide) pd_34 rfl rfl rfl (Nat.le_of_ble_eq_true rfl) (Nat.le_of_ble_eq_true rfl) (Nat.le_of_ble_eq_true rfl) (Nat.le_of_ble_eq_true rfl) d_text_73 ?_
  rintro _ hp143 ⟨rfl, K143, S6⟩
  replace O := O.keep K143 (allS g_sb (allS g_vc (all0)))
  replace E_o := E_o.keep K143
  replace F1 := F1.keep K143 (ninS ne_o_sb (ninS ne_o_vc nin0))
  replace F2 := F2.keep K143 (ninS ne_o_sb (ninS ne_o_vc nin0))
  replace F3 := F3.keep K143 (ninS ne_o_sb (ninS ne_o_vc nin0))
  replace E_sb := E_sb.keep K143
  replace hz : n0 ≤ hp143.size := Nat.le_trans hz K143.1
  replace hlo : hp142.size ≤ hp143.size := Nat.le_trans hlo K143.1
  replace KK : Keep h0 hp143 [] := KK.trans K143 (allS (Or.inr s_sb) (allS (Or.inr s_vc) (all0)))
  show GW_text l Z EL s₀ n0 (fun v h => ∃ (r u : Addr) (k : ClassId), v = some (.ref r) ∧ Keep h0 h [] ∧ h0.size ≤ r ∧ Cst Z h r u k (((([] ++ ds) ++ [32, 34]) ++ es) ++ [34])) hp142.size [vc] hp143 10 168 76 #[.val (.ref o), .unset, .unset] [(.ref sb)]
  -- at pc 76: pc 76: invokevirtual .invokevirtual 43 stack [(.ref sb)]
  have KKD := KK
  refine Go.callV (I' := IW Z EL s₀ hp142.size [vc]) (hI := wQ (ws := []) (fun v h' q => by obtain ⟨r, u, k, rfl, K144, q1, q2, q3, q4, BR⟩ := q; exact K144) all0) sb [] [] (ct_tosC l Z a0 hw n0 sb vc kc (((([] ++ ds) ++ [32, 34]) ++ es) ++ [34]) _ hz O z S_cs hcs S6 (by simp only [List.length_append, List.length_cons, List.length_nil]; omega)) E_sb (wd_175 hw) (wd_176 hw) (nf_sel (wd_178 hw)) (wd_178 hw) (wd_177 hw) (wd_86 hw) (wd_179 hw) (by decide) pd_36 rfl rfl rfl (Nat.le_of_ble_eq_true rfl) (Nat.le_of_ble_eq_true rfl) (Nat.le_of_ble_eq_true rfl) (Nat.le_of_ble_eq_true rfl) d_text_76 ?_
  rintro _ hp144 ⟨r, u, k, rfl, K144, q1, q2, q3, q4, BR⟩
  replace O := O.keep K144 (all0)
  replace E_o := E_o.keep K144
  replace F1 := F1.keep K144 nin0
  replace F2 := F2.keep K144 nin0
  replace F3 := F3.keep K144 nin0
  replace E_sb := E_sb.keep K144
  replace S6 := S6.keep K144 nin0 nin0
  replace hz : n0 ≤ hp144.size := Nat.le_trans hz K144.1
  replace hlo : hp142.size ≤ hp144.size := Nat.le_trans hlo K144.1
  replace KK : Keep h0 hp144 [] := KK.trans K144 (all0)
  show GW_text l Z EL s₀ n0 (fun v h => ∃ (r u : Addr) (k : ClassId), v = some (.ref r) ∧ Keep h0 h [] ∧ h0.size ≤ r ∧ Cst Z h r u k (((([] ++ ds) ++ [32, 34]) ++ es) ++ [34])) hp142.size [vc] hp144 12 204 79 #[.val (.ref o), .unset, .unset] [(.ref r)]
  refine Go.astoreN (Ls' := #[.val (.ref o), .val (.ref r), .unset]) d_text_79 rfl rfl ?_
  refine Go.aloadN d_text_80 rfl rfl ?_
  refine Go.astoreN (Ls' := #[.val (.ref o), .val (.ref r), .val (.ref r)]) d_text_81 rfl rfl ?_
  refine Go.aloadN d_text_82 rfl rfl ?_
  refine Go.getF (wd_46 hw) Via.refl F1 d_text_83 ?_
  refine Go.nullT 119 d_text_86 (by decide) (by decide) ?_
  refine Go.aloadN d_text_119 rfl rfl ?_
  -- at pc 120: pc 120: areturn .areturn stack [(.ref r)]
  exact GW.areturn hEL d_text_120 rfl rfl rfl (by decide) (by decide) ⟨r, u, k, rfl, KK, Nat.le_trans KKD.1 q2, BR⟩
-- PART law
theorem own_i2c (x : Int32) : 0 ≤ (x.toUInt32.toUInt16.toUInt32.toInt32).toInt ∧ (x.toUInt32.toUInt16.toUInt32.toInt32).toInt < 65536 := by
  have q := c_i2c x
  omega
theorem own_narc {c : Int32} (h : 0 ≤ c.toInt ∧ c.toInt < 65536) : nar .char c = c := by
  have q := c_i2c c
  apply Int32.toInt_inj.mp
  show (c.toUInt32.toUInt16.toUInt32.toInt32).toInt = c.toInt
  obtain ⟨h1, h2⟩ := h
  omega
/-- the table DigitOnes, as the words of the sheet say it -/
theorem dig_start {s : State} {a : Array Value} (hf : Fit s) (w1 : (Cond.exactly (Term.static "java/lang/Integer" "DigitOnes" "[B") "[B").before a s = true) (w2 : (Cond.eq (Term.length (Term.static "java/lang/Integer" "DigitOnes" "[B")) (Term.int 100)).before a s = true) (w3 : (Cond.all (Term.static "java/lang/Integer" "DigitOnes" "[B") (Cond.eq (Term.elem (Term.static "java/lang/Integer" "DigitOnes" "[B") (Term.index 0)) (Term.add (Term.int 48) (Term.rem (Term.index 0) (Term.int 10))))).before a s = true) (wB : (Cond.arrayClass .byte).before a s = true) :
    ∃ (d : Addr) (k : ClassId) (vs : List Value), ((Term.static "java/lang/Integer" "DigitOnes" "[B")).eval a s none [] s = some (.ref d) ∧ Arv s s.heap d k .byte (100 : Int32) vs (.int 0) ∧ vs.getD 0 (.int 0) = .int 48 := by
  obtain ⟨d, cB, D, kB, hev, hfcB, hcellD, hkB, hstatD, hclsD, -⟩ := Cond.exactly_spec w1
  have ev2 := eqv_i (Term.int_eval _) (Cond.before_iff.mp w2)
  obtain ⟨d', D', hev', harrAt, -⟩ := Term.length_spec ev2
  cases hev.symm.trans hev'
  obtain ⟨hcellD', hknD, -, -⟩ := State.arrayAt?_spec harrAt
  cases hcellD.symm.trans hcellD'
  obtain ⟨cB', kB', comp, hnameB, hkB', hkindB⟩ := Cond.arrayClass_spec wB
  have eBA : ("[" ++ FieldType.toString .byte) = "[B" := by decide
  rw [eBA] at hnameB
  cases hfcB.symm.trans hnameB
  cases hkB.symm.trans hkB'
  have A : Arr s s.heap d D .byte := ⟨hcellD, ⟨(fun q h => by rw [h] at hstatD; cases hstatD), kB, (by rw [hclsD]; exact hkB), comp, hkindB⟩, hknD⟩
  obtain ⟨hsz, he⟩ := len_says hev A ev2
  have S : D.slots.size = (100 : Int32).toNatClampNeg := by rw [← he]; simp only [Int32.toNatClampNeg, len_toInt hsz]; rfl
  have S' : D.slots.size = 100 := S
  have hall := Cond.all_elim hev harrAt (Cond.before_iff.mp w3) 0 (by omega)
  have hel := eqv_i (y := 48) (by simp [Term.eval]; decide) hall
  have h0 : D.slots[0]? = some (.int 48) := (elem_f (j := 0) (show ((Term.static "java/lang/Integer" "DigitOnes" "[B")).eval a s none [0] s = _ from hev) (by simp [Term.eval]; decide) harrAt (by decide)).symm.trans hel
  refine ⟨d, D.cls, D.slots.toList, hev, ⟨D, A, rfl, S, by decide, fun j hj => ?_, fun j hj => ?_⟩, ?_⟩
  · simp [hj]
  · have e1 : (Nat.toInt32 j).toNatClampNeg = j := by simp only [Int32.toNatClampNeg, len_toInt (Nat.lt_trans hj hsz)]; rfl
    exact elem_fits (j := Nat.toInt32 j) hf A (idx_in hj hsz) (by rw [e1]; simp [hj])
  · rw [List.getD_eq_getElem?_getD, Array.getElem?_toList, h0]; rfl

abbrev R_law : Room := room_1
abbrev GM_law (l : Launch) (Z : State) (n0 : Nat) (Q : Option Value → Heap → Prop) (h : Heap) (cells slots pc : Nat) (Ls : Array Slot) (st : List Value) : Prop := Go l Z n0 R_law "com/example/vestry/vestry/ObjectNameOfPinLaw" "law" code maxLocals ret IN (FN n0 R_law Q) h cells slots pc Ls st
abbrev GW_law (l : Launch) (Z : State) (EL : List (String × Nat)) (s₀ : State) (n0 : Nat) (Q : Option Value → Heap → Prop) (lo : Nat) (Sf : List Addr) (h : Heap) (cells slots pc : Nat) (Ls : Array Slot) (st : List Value) : Prop := Go l Z n0 R_law "com/example/vestry/vestry/ObjectNameOfPinLaw" "law" code maxLocals ret (IW Z EL s₀ lo Sf) (FW Z EL s₀ n0 R_law Q) h cells slots pc Ls st
theorem pf_law : plainFor (⟨"com/example/vestry/vestry/ObjectNameOfPinLaw", "law", "(IIIII)Z"⟩ : MethodName) = true := plainFor_of_name (by first | (simp [plainName, overriddenIn]; done) | decide +kernel)
set_option maxRecDepth 65536 in
set_option maxHeartbeats 40000000 in
theorem ct_law (l : Launch) (Z : State) (a0 : Array Value) (hw : ∀ d ∈ tables_1, d.before a0 Z = true) (n0 : Nat) (p0 p1 p2 p3 p4 : Int32) (h0 : Heap) (hz : n0 ≤ h0.size) (O : Old Z n0 h0) (z : Int32) (S_cs : Sta Z Z.heap "java/lang/String" "COMPACT_STRINGS" "Z" (.int z)) (hcs : ¬ z = 0) (S_ad : Sta Z Z.heap "java/lang/StringUTF16" "$assertionsDisabled" "Z" (.int (1 : Int32))) (S_hi : Sta Z Z.heap "java/lang/StringUTF16" "HI_BYTE_SHIFT" "I" (.int (0 : Int32))) (S_lo : Sta Z Z.heap "java/lang/StringUTF16" "LO_BYTE_SHIFT" "I" (.int (8 : Int32))) (vf : Value) (hvf : vf.isRef = true) (S_f : Sta Z Z.heap "jdk/internal/util/Preconditions" "SIOOBE_FORMATTER" "Ljava/util/function/BiFunction;" vf) (dg : Addr) (kd : ClassId) (vd : List Value) (S_dg : Sta Z Z.heap "java/lang/Integer" "DigitOnes" "[B" (.ref dg)) (V_dg : Arv Z Z.heap dg kd .byte (100 : Int32) vd (.int (0 : Int32))) (hd0 : vd.getD 0 (.int (0 : Int32)) = .int (48 : Int32)) :
    CtW l Z EL n0 "com/example/vestry/vestry/ObjectNameOfPinLaw" "law" "(IIIII)Z" tables_1 code maxLocals ret R_law #[.int p0, .int p1, .int p2, .int p3, .int p4] h0 [] (fun v _ => v = some (.int 1)) := by
  refine CtW.of_go pf_law (Ls := #[.val (.int p0), .val (.int p1), .val (.int p2), .val (.int p3), .val (.int p4), .unset, .unset, .unset, .unset, .unset, .unset, .unset, .unset, .unset, .unset]) (fun m => by first | (simp [entryFrame, mkF, argsToLocals, Value.category, maxLocals]; done) | rfl) fun s₀ => ?_
  have hlo : h0.size ≤ h0.size := Nat.le_refl _
  have hEL : EW Z a0 EL := ewEL hw
  show GW_law l Z EL s₀ n0 (fun v _ => v = some (.int 1)) h0.size [] h0 0 0 0 #[.val (.int p0), .val (.int p1), .val (.int p2), .val (.int p3), .val (.int p4), .unset, .unset, .unset, .unset, .unset, .unset, .unset, .unset, .unset, .unset] []
  refine Go.iloadN at_0 rfl ?_
  refine Go.ldc (wd_0 hw) at_1 ?_
  refine Go.iand at_3 ?_
  refine Go.i2c at_4 ?_
  generalize hg_ca : ((p0 &&& (65535 : Int32)).toUInt32.toUInt16.toUInt32.toInt32) = ca
  have o_ca : 0 ≤ (ca).toInt ∧ (ca).toInt < 65536 := hg_ca ▸ own_i2c _
  refine Go.istore (Ls' := #[.val (.int p0), .val (.int p1), .val (.int p2), .val (.int p3), .val (.int p4), .val (.int ca), .unset, .unset, .unset, .unset, .unset, .unset, .unset, .unset, .unset]) at_5 rfl ?_
  refine Go.iloadN at_7 rfl ?_
  refine Go.ldc (wd_0 hw) at_8 ?_
  refine Go.iand at_10 ?_
  refine Go.i2c at_11 ?_
  generalize hg_cb : ((p1 &&& (65535 : Int32)).toUInt32.toUInt16.toUInt32.toInt32) = cb
  have o_cb : 0 ≤ (cb).toInt ∧ (cb).toInt < 65536 := hg_cb ▸ own_i2c _
  refine Go.istore (Ls' := #[.val (.int p0), .val (.int p1), .val (.int p2), .val (.int p3), .val (.int p4), .val (.int ca), .val (.int cb), .unset, .unset, .unset, .unset, .unset, .unset, .unset, .unset]) at_12 rfl ?_
  refine Go.iloadN at_14 rfl ?_
  refine Go.ldc (wd_0 hw) at_15 ?_
  refine Go.iand at_17 ?_
  refine Go.i2c at_18 ?_
  generalize hg_cc : ((p2 &&& (65535 : Int32)).toUInt32.toUInt16.toUInt32.toInt32) = cc
  have o_cc : 0 ≤ (cc).toInt ∧ (cc).toInt < 65536 := hg_cc ▸ own_i2c _
  refine Go.istore (Ls' := #[.val (.int p0), .val (.int p1), .val (.int p2), .val (.int p3), .val (.int p4), .val (.int ca), .val (.int cb), .val (.int cc), .unset, .unset, .unset, .unset, .unset, .unset, .unset]) at_19 rfl ?_
  refine Go.iloadN at_21 rfl ?_
  refine Go.ldc (wd_0 hw) at_22 ?_
  refine Go.iand at_24 ?_
  refine Go.i2c at_25 ?_
  generalize hg_cd : ((p3 &&& (65535 : Int32)).toUInt32.toUInt16.toUInt32.toInt32) = cd
  have o_cd : 0 ≤ (cd).toInt ∧ (cd).toInt < 65536 := hg_cd ▸ own_i2c _
  refine Go.istore (Ls' := #[.val (.int p0), .val (.int p1), .val (.int p2), .val (.int p3), .val (.int p4), .val (.int ca), .val (.int cb), .val (.int cc), .val (.int cd), .unset, .unset, .unset, .unset, .unset, .unset]) at_26 rfl ?_
  -- at pc 28: pc 28: new .new 8 stack []
  refine Go.new (I' := IW Z EL s₀ h0.size []) (hI := wE) (wd_1 hw) (wd_2 hw) (wd_3 hw) at_28 (by decide) (by decide) fun hp145 x1 e_x1 X145 E_x1 D145 => ?_
  have K145 : Keep h0 hp145 [] := (Keep.refl _ _).ext X145
  have g_x1 : n0 ≤ x1 := e_x1 ▸ hz
  have l_x1 : h0.size ≤ x1 := e_x1 ▸ hlo
  replace O := O.keep K145 (all0)
  have F_x1_coder : Fld Z hp145 x1 "java/lang/String" "coder" "B" (.int (0 : Int32)) := D145 (Or.inr (wd_28 hw)) (ty := .byte) (by decide)
  have F_x1_value : Fld Z hp145 x1 "java/lang/String" "value" "[B" .null := D145 (Or.inr (wd_30 hw)) (ty := (.array .byte)) (by decide)
  replace hz : n0 ≤ hp145.size := Nat.le_trans hz K145.1
  replace hlo : h0.size ≤ hp145.size := Nat.le_trans hlo K145.1
  refine Go.dup at_31 rfl ?_
  refine Go.iconst 2 at_32 rfl ?_
  -- at pc 33: pc 33: newarray .newarray .char stack [(.int (2 : Int32)), (.ref x1), (.ref x1)]
  refine Go.newP (I' := IW Z EL s₀ h0.size []) (hI := wE) .char (wd_4 hw) rfl at_33 (by decide) 2 (by decide) (by decide) (by decide) (by decide) fun hp146 b1 k_b1 e_b1 X146 V_b1 => ?_
  have K146 : Keep hp145 hp146 [] := (Keep.refl _ _).ext X146
  have g_b1 : n0 ≤ b1 := e_b1 ▸ hz
  have l_b1 : h0.size ≤ b1 := e_b1 ▸ hlo
  have ne_x1_b1 : x1 ≠ b1 := Nat.ne_of_lt (e_b1 ▸ E_x1.lt)
  replace O := O.keep K146 (all0)
  replace E_x1 := E_x1.keep K146
  replace F_x1_coder := F_x1_coder.keep K146 nin0
  replace F_x1_value := F_x1_value.keep K146 nin0
  replace V_b1 : Arv Z hp146 b1 k_b1 .char (2 : Int32) [(.int (0 : Int32)), (.int (0 : Int32))] (.int (0 : Int32)) := V_b1.pad (pad_rep [] (.int (0 : Int32)) 2)
  replace hz : n0 ≤ hp146.size := Nat.le_trans hz K146.1
  replace hlo : h0.size ≤ hp146.size := Nat.le_trans hlo K146.1
  refine Go.dup at_35 rfl ?_
  refine Go.iconst 0 at_36 rfl ?_
  refine Go.iload at_37 rfl ?_
  refine Go.castore (I' := IW Z EL s₀ h0.size []) (hI := wI (Sb.arv V_b1 (by decide))) V_b1 ⟨by decide, by decide⟩ g_b1 0 rfl (Nat.le_of_ble_eq_true rfl) at_39 fun hp147 K147 V_b1_n => ?_
  replace V_b1 : Arv Z hp147 b1 k_b1 .char (2 : Int32) [(.int (nar .char ca)), (.int (0 : Int32))] (.int (0 : Int32)) := V_b1_n
  replace O := O.keep K147 (allS g_b1 (all0))
  replace E_x1 := E_x1.keep K147
  replace F_x1_coder := F_x1_coder.keep K147 (ninS ne_x1_b1 nin0)
  replace F_x1_value := F_x1_value.keep K147 (ninS ne_x1_b1 nin0)
  replace hz : n0 ≤ hp147.size := Nat.le_trans hz K147.1
  replace hlo : h0.size ≤ hp147.size := Nat.le_trans hlo K147.1
  rw [(own_narc o_ca)] at V_b1
  refine Go.dup at_40 rfl ?_
  refine Go.iconst 1 at_41 rfl ?_
  refine Go.iload at_42 rfl ?_
  refine Go.castore (I' := IW Z EL s₀ h0.size []) (hI := wI (Sb.arv V_b1 (by decide))) V_b1 ⟨by decide, by decide⟩ g_b1 1 rfl (Nat.le_of_ble_eq_true rfl) at_44 fun hp148 K148 V_b1_n => ?_
  replace V_b1 : Arv Z hp148 b1 k_b1 .char (2 : Int32) [(.int ca), (.int (nar .char cb))] (.int (0 : Int32)) := V_b1_n
  replace O := O.keep K148 (allS g_b1 (all0))
  replace E_x1 := E_x1.keep K148
  replace F_x1_coder := F_x1_coder.keep K148 (ninS ne_x1_b1 nin0)
  replace F_x1_value := F_x1_value.keep K148 (ninS ne_x1_b1 nin0)
  replace hz : n0 ≤ hp148.size := Nat.le_trans hz K148.1
  replace hlo : h0.size ≤ hp148.size := Nat.le_trans hlo K148.1
  rw [(own_narc o_cb)] at V_b1
  refine Go.callI (I' := IW Z EL s₀ h0.size []) (hI := wQ (ws := [x1]) (fun v h' q => by obtain ⟨rfl, K149, t1, k1, g_t1, s_t1, B1⟩ := q; exact K149) (allS (Sb.up l_x1) all0)) x1 [(.ref b1)] [(.ref x1)] (ct_newC l Z a0 hw n0 x1 b1 k_b1 [ca, cb] _ hz O z S_cs hcs S_ad S_hi S_lo (Nat.le_of_ble_eq_true rfl) (Nat.le_of_ble_eq_true rfl) (Chr.cons o_ca (Chr.cons o_cb Chr.nil)) g_x1 ne_x1_b1 E_x1 F_x1_value F_x1_coder V_b1) (wd_5 hw) (wd_6 hw) (wd_3 hw) (wd_7 hw) (by decide) pd_37 rfl rfl rfl (Nat.le_of_ble_eq_true rfl) (Nat.le_of_ble_eq_true rfl) (Nat.le_of_ble_eq_true rfl) (Nat.le_of_ble_eq_true rfl) at_45 ?_
  rintro _ hp149 ⟨rfl, K149, t1, k1, g_t1, s_t1, B1⟩
  replace O := O.keep K149 (allS g_x1 (all0))
  replace E_x1 := E_x1.keep K149
  replace V_b1 := V_b1.keep K149 (ninS (Ne.symm ne_x1_b1) nin0)
  replace hz : n0 ≤ hp149.size := Nat.le_trans hz K149.1
  replace hlo : h0.size ≤ hp149.size := Nat.le_trans hlo K149.1
  show GW_law l Z EL s₀ n0 (fun v _ => v = some (.int 1)) h0.size [] hp149 4 54 48 #[.val (.int p0), .val (.int p1), .val (.int p2), .val (.int p3), .val (.int p4), .val (.int ca), .val (.int cb), .val (.int cc), .val (.int cd), .unset, .unset, .unset, .unset, .unset, .unset] [(.ref x1)]
  refine Go.astore (Ls' := #[.val (.int p0), .val (.int p1), .val (.int p2), .val (.int p3), .val (.int p4), .val (.int ca), .val (.int cb), .val (.int cc), .val (.int cd), .val (.ref x1), .unset, .unset, .unset, .unset, .unset]) at_48 rfl rfl ?_
  refine Go.iload at_50 rfl ?_
  refine Go.iconst 3 at_52 rfl ?_
  refine Go.iand at_53 ?_
  generalize hg_m : (p4 &&& (3 : Int32)) = m
  refine Go.istore (Ls' := #[.val (.int p0), .val (.int p1), .val (.int p2), .val (.int p3), .val (.int p4), .val (.int ca), .val (.int cb), .val (.int cc), .val (.int cd), .val (.ref x1), .val (.int m), .unset, .unset, .unset, .unset]) at_54 rfl ?_
  refine Go.iload at_56 rfl ?_
  -- at pc 58: pc 58: ifCond .ifCond .ne 39 stack [(.int m)]
  have j274 : ∀ (h : Heap) (lo : Nat) (y w ba : Addr) (kw kb : ClassId) (es L : List Int32), L = (((([] ++ [ca, cb]) ++ [32, 34]) ++ es) ++ [34]) → ¬ m = 0 → es.length ≤ 2 → Chr es → lo ≤ h.size → n0 ≤ h.size → Old Z n0 h → Exa Z h x1 "java/lang/String" → Cst Z h x1 t1 k1 [ca, cb] → Cst Z h y w kw es → Arv Z h ba kb .char (Int32.ofNat L.length) (L.map Value.int) (.int (0 : Int32)) → GW_law l Z EL s₀ n0 (fun v _ => v = some (.int 1)) lo [] h 15 150 274 #[.val (.int p0), .val (.int p1), .val (.int p2), .val (.int p3), .val (.int p4), .val (.int ca), .val (.int cb), .val (.int cc), .val (.int cd), .val (.ref x1), .val (.int m), .val (.ref y), .val (.ref ba), .unset, .unset] [] := by
    clear hz O hlo B1 E_x1
    intro h lo y w ba kw kb es L hL hm hes hE hlo hz O E_x1 B1 D V_ba
    have hLl : L.length = es.length + 5 := by rw [hL]; simp only [List.length_append, List.length_cons, List.length_nil]; omega
    have hLC : Chr L := by rw [hL]; exact (((Chr.nil.app (Chr.cons o_ca (Chr.cons o_cb Chr.nil))).app Chr.k32).app hE).app Chr.k34
    have E_y := D.exa
    refine Go.new (I' := IW Z EL s₀ lo []) (hI := wE) (wd_1 hw) (wd_2 hw) (wd_3 hw) at_274 (by decide) (by decide) fun hp150 x2 e_x2 X150 E_x2 D150 => ?_
    have K150 : Keep h hp150 [] := (Keep.refl _ _).ext X150
    have g_x2 : n0 ≤ x2 := e_x2 ▸ hz
    have l_x2 : lo ≤ x2 := e_x2 ▸ hlo
    have ne_x1_x2 : x1 ≠ x2 := Nat.ne_of_lt (e_x2 ▸ E_x1.lt)
    have ne_t1_x2 : t1 ≠ x2 := Nat.ne_of_lt (e_x2 ▸ B1.lt2)
    have ne_y_x2 : y ≠ x2 := Nat.ne_of_lt (e_x2 ▸ D.lt)
    have ne_w_x2 : w ≠ x2 := Nat.ne_of_lt (e_x2 ▸ D.lt2)
    have ne_ba_x2 : ba ≠ x2 := Nat.ne_of_lt (e_x2 ▸ V_ba.lt)
    replace O := O.keep K150 (all0)
    replace E_x1 := E_x1.keep K150
    replace B1 := B1.keep K150 nin0 nin0
    replace D := D.keep K150 nin0 nin0
    replace E_y := E_y.keep K150
    replace V_ba := V_ba.keep K150 nin0
    have F_x2_coder : Fld Z hp150 x2 "java/lang/String" "coder" "B" (.int (0 : Int32)) := D150 (Or.inr (wd_28 hw)) (ty := .byte) (by decide)
    have F_x2_value : Fld Z hp150 x2 "java/lang/String" "value" "[B" .null := D150 (Or.inr (wd_30 hw)) (ty := (.array .byte)) (by decide)
    replace hz : n0 ≤ hp150.size := Nat.le_trans hz K150.1
    replace hlo : lo ≤ hp150.size := Nat.le_trans hlo K150.1
    refine Go.dup at_277 rfl ?_
    refine Go.aload at_278 rfl rfl ?_
    refine Go.callI (I' := IW Z EL s₀ lo []) (hI := wQ (ws := [x2]) (fun v h' q => by obtain ⟨rfl, K151, t2, k2, g_t2, s_t2, B2⟩ := q; exact K151) (allS (Sb.up l_x2) all0)) x2 [(.ref ba)] [(.ref x2)] (ct_newC l Z a0 hw n0 x2 ba kb L _ hz O z S_cs hcs S_ad S_hi S_lo (by omega) (by omega) hLC g_x2 (Ne.symm ne_ba_x2) E_x2 F_x2_value F_x2_coder V_ba) (wd_5 hw) (wd_6 hw) (wd_3 hw) (wd_7 hw) (by decide) pd_37 rfl rfl rfl (Nat.le_of_ble_eq_true rfl) (Nat.le_of_ble_eq_true rfl) (Nat.le_of_ble_eq_true rfl) (Nat.le_of_ble_eq_true rfl) at_280 ?_
    rintro _ hp151 ⟨rfl, K151, t2, k2, g_t2, s_t2, B2⟩
    replace O := O.keep K151 (allS g_x2 (all0))
    replace E_x1 := E_x1.keep K151
    replace B1 := B1.keep K151 (ninS ne_x1_x2 nin0) (ninS ne_t1_x2 nin0)
    replace D := D.keep K151 (ninS ne_y_x2 nin0) (ninS ne_w_x2 nin0)
    replace E_y := E_y.keep K151
    replace V_ba := V_ba.keep K151 (ninS ne_ba_x2 nin0)
    replace E_x2 := E_x2.keep K151
    replace hz : n0 ≤ hp151.size := Nat.le_trans hz K151.1
    replace hlo : lo ≤ hp151.size := Nat.le_trans hlo K151.1
    show GW_law l Z EL s₀ n0 (fun v _ => v = some (.int 1)) lo [] hp151 18 202 283 #[.val (.int p0), .val (.int p1), .val (.int p2), .val (.int p3), .val (.int p4), .val (.int ca), .val (.int cb), .val (.int cc), .val (.int cd), .val (.ref x1), .val (.int m), .val (.ref y), .val (.ref ba), .unset, .unset] [(.ref x2)]
    refine Go.astore (Ls' := #[.val (.int p0), .val (.int p1), .val (.int p2), .val (.int p3), .val (.int p4), .val (.int ca), .val (.int cb), .val (.int cc), .val (.int cd), .val (.ref x1), .val (.int m), .val (.ref y), .val (.ref ba), .val (.ref x2), .unset]) at_283 rfl rfl ?_
    refine Go.aload at_285 rfl rfl ?_
    refine Go.aload at_287 rfl rfl ?_
    -- at pc 289: pc 289: invokestatic .invokestatic 13 stack [(.ref y), (.ref x1)]
    refine Go.callS (I' := IW Z EL s₀ lo []) (hI := wQ (ws := []) (fun v h' q => by obtain ⟨o, rfl, K152, E_o, F1, F2, F3, F4⟩ := q; exact K152) all0) [(.ref x1), (.ref y)] [] (ct_onof l Z a0 hw n0 x1 (.ref y) rfl _ hz) (wd_31 hw) (wd_32 hw) (wd_33 hw) (wd_34 hw) (by decide) pd_38 rfl rfl rfl (Nat.le_of_ble_eq_true rfl) (Nat.le_of_ble_eq_true rfl) (Nat.le_of_ble_eq_true rfl) (Nat.le_of_ble_eq_true rfl) at_289 ?_
    rintro _ hp152 ⟨o, rfl, K152, E_o, F1, F2, F3, F4⟩
    replace O := O.keep K152 (all0)
    replace E_x1 := E_x1.keep K152
    replace B1 := B1.keep K152 nin0 nin0
    replace D := D.keep K152 nin0 nin0
    replace E_y := E_y.keep K152
    replace E_x2 := E_x2.keep K152
    replace B2 := B2.keep K152 nin0 nin0
    replace hz : n0 ≤ hp152.size := Nat.le_trans hz K152.1
    replace hlo : lo ≤ hp152.size := Nat.le_trans hlo K152.1
    show GW_law l Z EL s₀ n0 (fun v _ => v = some (.int 1)) lo [] hp152 19 206 292 #[.val (.int p0), .val (.int p1), .val (.int p2), .val (.int p3), .val (.int p4), .val (.int ca), .val (.int cb), .val (.int cc), .val (.int cd), .val (.ref x1), .val (.int m), .val (.ref y), .val (.ref ba), .val (.ref x2), .unset] [(.ref o)]
    refine Go.astore (Ls' := #[.val (.int p0), .val (.int p1), .val (.int p2), .val (.int p3), .val (.int p4), .val (.int ca), .val (.int cb), .val (.int cc), .val (.int cd), .val (.ref x1), .val (.int m), .val (.ref y), .val (.ref ba), .val (.ref x2), .val (.ref o)]) at_292 rfl rfl ?_
    refine Go.aload at_294 rfl rfl ?_
    -- at pc 296: pc 296: invokevirtual .invokevirtual 19 stack [(.ref o)]
    refine Go.callV (I' := IW Z EL s₀ lo []) (hI := wQ (ws := []) (fun v h' q => by obtain ⟨rfl, rfl⟩ := q; exact Keep.refl _ _) all0) o [] [] (ct_onw l Z a0 hw n0 o _ F1) E_o (wd_54 hw) (wd_55 hw) (nf_sel (wd_57 hw)) (wd_57 hw) (wd_56 hw) (wd_33 hw) (wd_58 hw) (by decide) pd_39 rfl rfl rfl (Nat.le_of_ble_eq_true rfl) (Nat.le_of_ble_eq_true rfl) (Nat.le_of_ble_eq_true rfl) (Nat.le_of_ble_eq_true rfl) at_296 ?_
    rintro _ _ ⟨rfl, rfl⟩
    show GW_law l Z EL s₀ n0 (fun v _ => v = some (.int 1)) lo [] hp152 19 206 299 #[.val (.int p0), .val (.int p1), .val (.int p2), .val (.int p3), .val (.int p4), .val (.int ca), .val (.int cb), .val (.int cc), .val (.int cd), .val (.ref x1), .val (.int m), .val (.ref y), .val (.ref ba), .val (.ref x2), .val (.ref o)] [.null]
    refine Go.nullT 304 at_299 (by decide) (by decide) ?_
    refine Go.aload at_304 rfl rfl ?_
    refine Go.aload at_306 rfl rfl ?_
    -- at pc 308: pc 308: invokevirtual .invokevirtual 23 stack [(.ref o), (.ref x1)]
    refine Go.callV (I' := IW Z EL s₀ lo []) (hI := wQ (ws := []) (fun v h' q => by obtain ⟨rfl, rfl⟩ := q; exact Keep.refl _ _) all0) o [] [(.ref x1)] (ct_onk l Z a0 hw n0 o x1 _ F2) E_o (wd_59 hw) (wd_60 hw) (nf_sel (wd_62 hw)) (wd_62 hw) (wd_61 hw) (wd_33 hw) (wd_63 hw) (by decide) pd_36 rfl rfl rfl (Nat.le_of_ble_eq_true rfl) (Nat.le_of_ble_eq_true rfl) (Nat.le_of_ble_eq_true rfl) (Nat.le_of_ble_eq_true rfl) at_308 ?_
    rintro _ _ ⟨rfl, rfl⟩
    show GW_law l Z EL s₀ n0 (fun v _ => v = some (.int 1)) lo [] hp152 19 206 311 #[.val (.int p0), .val (.int p1), .val (.int p2), .val (.int p3), .val (.int p4), .val (.int ca), .val (.int cb), .val (.int cc), .val (.int cd), .val (.ref x1), .val (.int m), .val (.ref y), .val (.ref ba), .val (.ref x2), .val (.ref o)] [(.ref x1), (.ref x1)]
    -- at pc 311: pc 311: invokevirtual .invokevirtual 27 stack [(.ref x1), (.ref x1)]
    refine Go.callV (I' := IW Z EL s₀ lo []) (hI := wQ (ws := []) (fun v h' q => by obtain ⟨rfl, rfl⟩ := q; exact Keep.refl _ _) all0) x1 [(.ref x1)] [] (ct_eqI l Z a0 hw n0 x1 _) E_x1 (wd_64 hw) (wd_65 hw) (nf_sel (wd_67 hw)) (wd_67 hw) (wd_66 hw) (wd_3 hw) (wd_68 hw) (by decide) pd_40 rfl rfl rfl (Nat.le_of_ble_eq_true rfl) (Nat.le_of_ble_eq_true rfl) (Nat.le_of_ble_eq_true rfl) (Nat.le_of_ble_eq_true rfl) at_311 ?_
    rintro _ _ ⟨rfl, rfl⟩
    show GW_law l Z EL s₀ n0 (fun v _ => v = some (.int 1)) lo [] hp152 19 206 314 #[.val (.int p0), .val (.int p1), .val (.int p2), .val (.int p3), .val (.int p4), .val (.int ca), .val (.int cb), .val (.int cc), .val (.int cd), .val (.ref x1), .val (.int m), .val (.ref y), .val (.ref ba), .val (.ref x2), .val (.ref o)] [(.int (1 : Int32))]
    -- not: (1 : Int32) = (0 : Int32)
    refine Go.ifT 319 at_314 (feq (by decide)).2 (by decide) (by decide) ?_
    refine Go.iload at_319 rfl ?_
    -- at pc 321: pc 321: ifCond .ifCond .ne 13 stack [(.int m)]
    -- not: m = (0 : Int32)
    refine Go.ifT 334 at_321 (feq (hm)).2 (by decide) (by decide) ?_
    refine Go.aload at_334 rfl rfl ?_
    refine Go.aload at_336 rfl rfl ?_
    -- at pc 338: pc 338: invokevirtual .invokevirtual 31 stack [(.ref o), (.ref y)]
    refine Go.callV (I' := IW Z EL s₀ lo []) (hI := wQ (ws := []) (fun v h' q => by obtain ⟨rfl, rfl⟩ := q; exact Keep.refl _ _) all0) o [] [(.ref y)] (ct_ond l Z a0 hw n0 o (.ref y) rfl _ F3) E_o (wd_69 hw) (wd_70 hw) (nf_sel (wd_72 hw)) (wd_72 hw) (wd_71 hw) (wd_33 hw) (wd_73 hw) (by decide) pd_36 rfl rfl rfl (Nat.le_of_ble_eq_true rfl) (Nat.le_of_ble_eq_true rfl) (Nat.le_of_ble_eq_true rfl) (Nat.le_of_ble_eq_true rfl) at_338 ?_
    rintro _ _ ⟨rfl, rfl⟩
    show GW_law l Z EL s₀ n0 (fun v _ => v = some (.int 1)) lo [] hp152 19 206 341 #[.val (.int p0), .val (.int p1), .val (.int p2), .val (.int p3), .val (.int p4), .val (.int ca), .val (.int cb), .val (.int cc), .val (.int cd), .val (.ref x1), .val (.int m), .val (.ref y), .val (.ref ba), .val (.ref x2), .val (.ref o)] [(.ref y), (.ref y)]
    -- at pc 341: pc 341: invokevirtual .invokevirtual 27 stack [(.ref y), (.ref y)]
    refine Go.callV (I' := IW Z EL s₀ lo []) (hI := wQ (ws := []) (fun v h' q => by obtain ⟨rfl, rfl⟩ := q; exact Keep.refl _ _) all0) y [(.ref y)] [] (ct_eqI l Z a0 hw n0 y _) E_y (wd_64 hw) (wd_65 hw) (nf_sel (wd_67 hw)) (wd_67 hw) (wd_66 hw) (wd_3 hw) (wd_68 hw) (by decide) pd_40 rfl rfl rfl (Nat.le_of_ble_eq_true rfl) (Nat.le_of_ble_eq_true rfl) (Nat.le_of_ble_eq_true rfl) (Nat.le_of_ble_eq_true rfl) at_341 ?_
    rintro _ _ ⟨rfl, rfl⟩
    show GW_law l Z EL s₀ n0 (fun v _ => v = some (.int 1)) lo [] hp152 19 206 344 #[.val (.int p0), .val (.int p1), .val (.int p2), .val (.int p3), .val (.int p4), .val (.int ca), .val (.int cb), .val (.int cc), .val (.int cd), .val (.ref x1), .val (.int m), .val (.ref y), .val (.ref ba), .val (.ref x2), .val (.ref o)] [(.int (1 : Int32))]
    -- not: (1 : Int32) = (0 : Int32)
    refine Go.ifT 349 at_344 (feq (by decide)).2 (by decide) (by decide) ?_
    refine Go.aload at_349 rfl rfl ?_
    -- at pc 351: pc 351: invokevirtual .invokevirtual 34 stack [(.ref o)]
    refine Go.callV (I' := IW Z EL s₀ lo []) (hI := wQ (ws := []) (fun v h' q => by obtain ⟨rfl, rfl⟩ := q; exact Keep.refl _ _) all0) o [] [] (ct_onx l Z a0 hw n0 o _ F4) E_o (wd_74 hw) (wd_75 hw) (nf_sel (wd_77 hw)) (wd_77 hw) (wd_76 hw) (wd_33 hw) (wd_78 hw) (by decide) pd_4 rfl rfl rfl (Nat.le_of_ble_eq_true rfl) (Nat.le_of_ble_eq_true rfl) (Nat.le_of_ble_eq_true rfl) (Nat.le_of_ble_eq_true rfl) at_351 ?_
    rintro _ _ ⟨rfl, rfl⟩
    show GW_law l Z EL s₀ n0 (fun v _ => v = some (.int 1)) lo [] hp152 19 206 354 #[.val (.int p0), .val (.int p1), .val (.int p2), .val (.int p3), .val (.int p4), .val (.int ca), .val (.int cb), .val (.int cc), .val (.int cd), .val (.ref x1), .val (.int m), .val (.ref y), .val (.ref ba), .val (.ref x2), .val (.ref o)] [(.int (0 : Int32))]
    -- (0 : Int32) = (0 : Int32)
    refine Go.ifT 359 at_354 (teq (rfl)).1 (by decide) (by decide) ?_
    refine Go.aload at_359 rfl rfl ?_
    refine Go.aload at_361 rfl rfl ?_
    -- at pc 363: pc 363: invokevirtual .invokevirtual 38 stack [(.ref o), (.ref x2)]
    have lt_x2 := E_x2.lt
    refine GW.callV [] [] o [] [(.ref x2)] (ctw_textS l Z a0 hw n0 o x1 t1 y w k1 kw [ca, cb] es _ hz O z S_cs hcs S_ad S_hi S_lo vf hvf S_f (Chr.cons o_ca (Chr.cons o_cb Chr.nil)) hE (Nat.le_of_ble_eq_true rfl) (by omega) E_o F1 F2 F3 B1 D) E_o hEL all0 all0 (wd_79 hw) (wd_80 hw) (nf_sel (wd_82 hw)) (wd_82 hw) (wd_81 hw) (wd_33 hw) (wd_83 hw) (by decide) pd_36 rfl rfl rfl (Nat.le_of_ble_eq_true rfl) (Nat.le_of_ble_eq_true rfl) (Nat.le_of_ble_eq_true rfl) (Nat.le_of_ble_eq_true rfl) at_363 ?_
    rintro _ hp159 ⟨r, u, k, rfl, K159, s_r, BR⟩ hgr159
    replace O := O.keep K159 (all0)
    replace E_x1 := E_x1.keep K159
    replace B1 := B1.keep K159 nin0 nin0
    replace D := D.keep K159 nin0 nin0
    replace E_y := E_y.keep K159
    replace E_x2 := E_x2.keep K159
    replace B2 := B2.keep K159 nin0 nin0
    replace E_o := E_o.keep K159
    replace F1 := F1.keep K159 nin0
    replace F2 := F2.keep K159 nin0
    replace F3 := F3.keep K159 nin0
    replace F4 := F4.keep K159 nin0
    replace hz : n0 ≤ hp159.size := Nat.le_trans hz K159.1
    replace hlo : lo ≤ hp159.size := Nat.le_trans hlo K159.1
    replace hlo : hp159.size ≤ hp159.size := Nat.le_refl _
    show GW_law l Z EL s₀ n0 (fun v _ => v = some (.int 1)) hp159.size [] hp159 31 410 366 #[.val (.int p0), .val (.int p1), .val (.int p2), .val (.int p3), .val (.int p4), .val (.int ca), .val (.int cb), .val (.int cc), .val (.int cd), .val (.ref x1), .val (.int m), .val (.ref y), .val (.ref ba), .val (.ref x2), .val (.ref o)] [(.ref r), (.ref x2)]
    rw [← hL] at BR
    -- at pc 366: pc 366: invokevirtual .invokevirtual 27 stack [(.ref r), (.ref x2)]
    refine Go.callV (I' := IW Z EL s₀ hp159.size []) (hI := wQ (ws := []) (fun v h' q => by obtain ⟨rfl, rfl⟩ := q; exact Keep.refl _ _) all0) x2 [(.ref r)] [] (ct_eqC l Z a0 hw n0 x2 r t2 u k2 k L _ O z S_cs hcs (Nat.ne_of_lt (Nat.lt_of_lt_of_le lt_x2 s_r)) (by omega) B2 BR) E_x2 (wd_64 hw) (wd_65 hw) (nf_sel (wd_67 hw)) (wd_67 hw) (wd_66 hw) (wd_3 hw) (wd_68 hw) (by decide) pd_40 rfl rfl rfl (Nat.le_of_ble_eq_true rfl) (Nat.le_of_ble_eq_true rfl) (Nat.le_of_ble_eq_true rfl) (Nat.le_of_ble_eq_true rfl) at_366 ?_
    rintro _ _ ⟨rfl, rfl⟩
    show GW_law l Z EL s₀ n0 (fun v _ => v = some (.int 1)) hp159.size [] hp159 31 410 369 #[.val (.int p0), .val (.int p1), .val (.int p2), .val (.int p3), .val (.int p4), .val (.int ca), .val (.int cb), .val (.int cc), .val (.int cd), .val (.ref x1), .val (.int m), .val (.ref y), .val (.ref ba), .val (.ref x2), .val (.ref o)] [(.int (1 : Int32))]
    -- at pc 369: pc 369: ireturn .ireturn stack [(.int (1 : Int32))]
    exact GW.nreturn .boolean hEL at_369 rfl (by simp) (by decide) (by decide) rfl
  by_cases hm0 : m = (0 : Int32)
  · refine Go.ifF at_58 (teq hm0).2 ?_
    refine Go.null at_61 ?_
    refine Go.astore (Ls' := #[.val (.int p0), .val (.int p1), .val (.int p2), .val (.int p3), .val (.int p4), .val (.int ca), .val (.int cb), .val (.int cc), .val (.int cd), .val (.ref x1), .val (.int m), .val .null, .unset, .unset, .unset]) at_62 rfl rfl ?_
    refine Go.iconst 5 at_64 rfl ?_
    -- at pc 65: pc 65: newarray .newarray .char stack [(.int (5 : Int32))]
    refine Go.newP (I' := IW Z EL s₀ h0.size []) (hI := wE) .char (wd_4 hw) rfl at_65 (by decide) 5 (by decide) (by decide) (by decide) (by decide) fun hp161 b2 k_b2 e_b2 X161 V_b2 => ?_
    have K161 : Keep hp149 hp161 [] := (Keep.refl _ _).ext X161
    have g_b2 : n0 ≤ b2 := e_b2 ▸ hz
    have l_b2 : h0.size ≤ b2 := e_b2 ▸ hlo
    have ne_x1_b2 : x1 ≠ b2 := Nat.ne_of_lt (e_b2 ▸ E_x1.lt)
    have ne_t1_b2 : t1 ≠ b2 := Nat.ne_of_lt (e_b2 ▸ B1.lt2)
    replace O := O.keep K161 (all0)
    replace E_x1 := E_x1.keep K161
    replace B1 := B1.keep K161 nin0 nin0
    replace V_b2 : Arv Z hp161 b2 k_b2 .char (5 : Int32) [(.int (0 : Int32)), (.int (0 : Int32)), (.int (0 : Int32)), (.int (0 : Int32)), (.int (0 : Int32))] (.int (0 : Int32)) := V_b2.pad (pad_rep [] (.int (0 : Int32)) 5)
    replace hz : n0 ≤ hp161.size := Nat.le_trans hz K161.1
    replace hlo : h0.size ≤ hp161.size := Nat.le_trans hlo K161.1
    refine Go.dup at_67 rfl ?_
    refine Go.iconst 0 at_68 rfl ?_
    refine Go.iload at_69 rfl ?_
    refine Go.castore (I' := IW Z EL s₀ h0.size []) (hI := wI (Sb.arv V_b2 (by decide))) V_b2 ⟨by decide, by decide⟩ g_b2 0 rfl (Nat.le_of_ble_eq_true rfl) at_71 fun hp162 K162 V_b2_n => ?_
    replace V_b2 : Arv Z hp162 b2 k_b2 .char (5 : Int32) [(.int (nar .char ca)), (.int (0 : Int32)), (.int (0 : Int32)), (.int (0 : Int32)), (.int (0 : Int32))] (.int (0 : Int32)) := V_b2_n
    replace O := O.keep K162 (allS g_b2 (all0))
    replace E_x1 := E_x1.keep K162
    replace B1 := B1.keep K162 (ninS ne_x1_b2 nin0) (ninS ne_t1_b2 nin0)
    replace hz : n0 ≤ hp162.size := Nat.le_trans hz K162.1
    replace hlo : h0.size ≤ hp162.size := Nat.le_trans hlo K162.1
    rw [(own_narc o_ca)] at V_b2
    refine Go.dup at_72 rfl ?_
    refine Go.iconst 1 at_73 rfl ?_
    refine Go.iload at_74 rfl ?_
    refine Go.castore (I' := IW Z EL s₀ h0.size []) (hI := wI (Sb.arv V_b2 (by decide))) V_b2 ⟨by decide, by decide⟩ g_b2 1 rfl (Nat.le_of_ble_eq_true rfl) at_76 fun hp163 K163 V_b2_n => ?_
    replace V_b2 : Arv Z hp163 b2 k_b2 .char (5 : Int32) [(.int ca), (.int (nar .char cb)), (.int (0 : Int32)), (.int (0 : Int32)), (.int (0 : Int32))] (.int (0 : Int32)) := V_b2_n
    replace O := O.keep K163 (allS g_b2 (all0))
    replace E_x1 := E_x1.keep K163
    replace B1 := B1.keep K163 (ninS ne_x1_b2 nin0) (ninS ne_t1_b2 nin0)
    replace hz : n0 ≤ hp163.size := Nat.le_trans hz K163.1
    replace hlo : h0.size ≤ hp163.size := Nat.le_trans hlo K163.1
    rw [(own_narc o_cb)] at V_b2
    refine Go.dup at_77 rfl ?_
    refine Go.iconst 2 at_78 rfl ?_
    refine Go.bipush 91 at_79 rfl ?_
    refine Go.castore (I' := IW Z EL s₀ h0.size []) (hI := wI (Sb.arv V_b2 (by decide))) V_b2 ⟨by decide, by decide⟩ g_b2 2 rfl (Nat.le_of_ble_eq_true rfl) at_81 fun hp164 K164 V_b2_n => ?_
    replace V_b2 : Arv Z hp164 b2 k_b2 .char (5 : Int32) [(.int ca), (.int cb), (.int (nar .char (91 : Int32))), (.int (0 : Int32)), (.int (0 : Int32))] (.int (0 : Int32)) := V_b2_n
    replace O := O.keep K164 (allS g_b2 (all0))
    replace E_x1 := E_x1.keep K164
    replace B1 := B1.keep K164 (ninS ne_x1_b2 nin0) (ninS ne_t1_b2 nin0)
    replace hz : n0 ≤ hp164.size := Nat.le_trans hz K164.1
    replace hlo : h0.size ≤ hp164.size := Nat.le_trans hlo K164.1
    rw [(show nar .char (91 : Int32) = 91 from rfl)] at V_b2
    refine Go.dup at_82 rfl ?_
    refine Go.iconst 3 at_83 rfl ?_
    refine Go.bipush 48 at_84 rfl ?_
    refine Go.castore (I' := IW Z EL s₀ h0.size []) (hI := wI (Sb.arv V_b2 (by decide))) V_b2 ⟨by decide, by decide⟩ g_b2 3 rfl (Nat.le_of_ble_eq_true rfl) at_86 fun hp165 K165 V_b2_n => ?_
    replace V_b2 : Arv Z hp165 b2 k_b2 .char (5 : Int32) [(.int ca), (.int cb), (.int (91 : Int32)), (.int (nar .char (48 : Int32))), (.int (0 : Int32))] (.int (0 : Int32)) := V_b2_n
    replace O := O.keep K165 (allS g_b2 (all0))
    replace E_x1 := E_x1.keep K165
    replace B1 := B1.keep K165 (ninS ne_x1_b2 nin0) (ninS ne_t1_b2 nin0)
    replace hz : n0 ≤ hp165.size := Nat.le_trans hz K165.1
    replace hlo : h0.size ≤ hp165.size := Nat.le_trans hlo K165.1
    rw [(show nar .char (48 : Int32) = 48 from rfl)] at V_b2
    refine Go.dup at_87 rfl ?_
    refine Go.iconst 4 at_88 rfl ?_
    refine Go.bipush 93 at_89 rfl ?_
    refine Go.castore (I' := IW Z EL s₀ h0.size []) (hI := wI (Sb.arv V_b2 (by decide))) V_b2 ⟨by decide, by decide⟩ g_b2 4 rfl (Nat.le_of_ble_eq_true rfl) at_91 fun hp166 K166 V_b2_n => ?_
    replace V_b2 : Arv Z hp166 b2 k_b2 .char (5 : Int32) [(.int ca), (.int cb), (.int (91 : Int32)), (.int (48 : Int32)), (.int (nar .char (93 : Int32)))] (.int (0 : Int32)) := V_b2_n
    replace O := O.keep K166 (allS g_b2 (all0))
    replace E_x1 := E_x1.keep K166
    replace B1 := B1.keep K166 (ninS ne_x1_b2 nin0) (ninS ne_t1_b2 nin0)
    replace hz : n0 ≤ hp166.size := Nat.le_trans hz K166.1
    replace hlo : h0.size ≤ hp166.size := Nat.le_trans hlo K166.1
    rw [(show nar .char (93 : Int32) = 93 from rfl)] at V_b2
    refine Go.astore (Ls' := #[.val (.int p0), .val (.int p1), .val (.int p2), .val (.int p3), .val (.int p4), .val (.int ca), .val (.int cb), .val (.int cc), .val (.int cd), .val (.ref x1), .val (.int m), .val .null, .val (.ref b2), .unset, .unset]) at_92 rfl rfl ?_
    refine Go.goto 274 at_94 (by decide) (by decide) ?_
    refine Go.new (I' := IW Z EL s₀ h0.size []) (hI := wE) (wd_1 hw) (wd_2 hw) (wd_3 hw) at_274 (by decide) (by decide) fun hp167 x2 e_x2 X167 E_x2 D167 => ?_
    have K167 : Keep hp166 hp167 [] := (Keep.refl _ _).ext X167
    have g_x2 : n0 ≤ x2 := e_x2 ▸ hz
    have l_x2 : h0.size ≤ x2 := e_x2 ▸ hlo
    have ne_x1_x2 : x1 ≠ x2 := Nat.ne_of_lt (e_x2 ▸ E_x1.lt)
    have ne_t1_x2 : t1 ≠ x2 := Nat.ne_of_lt (e_x2 ▸ B1.lt2)
    have ne_b2_x2 : b2 ≠ x2 := Nat.ne_of_lt (e_x2 ▸ V_b2.lt)
    replace O := O.keep K167 (all0)
    replace E_x1 := E_x1.keep K167
    replace B1 := B1.keep K167 nin0 nin0
    replace V_b2 := V_b2.keep K167 nin0
    have F_x2_coder : Fld Z hp167 x2 "java/lang/String" "coder" "B" (.int (0 : Int32)) := D167 (Or.inr (wd_28 hw)) (ty := .byte) (by decide)
    have F_x2_value : Fld Z hp167 x2 "java/lang/String" "value" "[B" .null := D167 (Or.inr (wd_30 hw)) (ty := (.array .byte)) (by decide)
    replace hz : n0 ≤ hp167.size := Nat.le_trans hz K167.1
    replace hlo : h0.size ≤ hp167.size := Nat.le_trans hlo K167.1
    refine Go.dup at_277 rfl ?_
    refine Go.aload at_278 rfl rfl ?_
    refine Go.callI (I' := IW Z EL s₀ h0.size []) (hI := wQ (ws := [x2]) (fun v h' q => by obtain ⟨rfl, K168, t2, k2, g_t2, s_t2, B2⟩ := q; exact K168) (allS (Sb.up l_x2) all0)) x2 [(.ref b2)] [(.ref x2)] (ct_newC l Z a0 hw n0 x2 b2 k_b2 [ca, cb, 91, 48, 93] _ hz O z S_cs hcs S_ad S_hi S_lo (Nat.le_of_ble_eq_true rfl) (Nat.le_of_ble_eq_true rfl) (Chr.cons o_ca (Chr.cons o_cb (Chr.k91.app (Chr.k48.app Chr.k93)))) g_x2 (Ne.symm ne_b2_x2) E_x2 F_x2_value F_x2_coder V_b2) (wd_5 hw) (wd_6 hw) (wd_3 hw) (wd_7 hw) (by decide) pd_37 rfl rfl rfl (Nat.le_of_ble_eq_true rfl) (Nat.le_of_ble_eq_true rfl) (Nat.le_of_ble_eq_true rfl) (Nat.le_of_ble_eq_true rfl) at_280 ?_
    rintro _ hp168 ⟨rfl, K168, t2, k2, g_t2, s_t2, B2⟩
    replace O := O.keep K168 (allS g_x2 (all0))
    replace E_x1 := E_x1.keep K168
    replace B1 := B1.keep K168 (ninS ne_x1_x2 nin0) (ninS ne_t1_x2 nin0)
    replace V_b2 := V_b2.keep K168 (ninS ne_b2_x2 nin0)
    replace E_x2 := E_x2.keep K168
    replace hz : n0 ≤ hp168.size := Nat.le_trans hz K168.1
    replace hlo : h0.size ≤ hp168.size := Nat.le_trans hlo K168.1
    show GW_law l Z EL s₀ n0 (fun v _ => v = some (.int 1)) h0.size [] hp168 8 111 283 #[.val (.int p0), .val (.int p1), .val (.int p2), .val (.int p3), .val (.int p4), .val (.int ca), .val (.int cb), .val (.int cc), .val (.int cd), .val (.ref x1), .val (.int m), .val .null, .val (.ref b2), .unset, .unset] [(.ref x2)]
    refine Go.astore (Ls' := #[.val (.int p0), .val (.int p1), .val (.int p2), .val (.int p3), .val (.int p4), .val (.int ca), .val (.int cb), .val (.int cc), .val (.int cd), .val (.ref x1), .val (.int m), .val .null, .val (.ref b2), .val (.ref x2), .unset]) at_283 rfl rfl ?_
    refine Go.aload at_285 rfl rfl ?_
    refine Go.aload at_287 rfl rfl ?_
    -- at pc 289: pc 289: invokestatic .invokestatic 13 stack [.null, (.ref x1)]
    refine Go.callS (I' := IW Z EL s₀ h0.size []) (hI := wQ (ws := []) (fun v h' q => by obtain ⟨o, rfl, K169, E_o, F1, F2, F3, F4⟩ := q; exact K169) all0) [(.ref x1), .null] [] (ct_onof l Z a0 hw n0 x1 .null rfl _ hz) (wd_31 hw) (wd_32 hw) (wd_33 hw) (wd_34 hw) (by decide) pd_38 rfl rfl rfl (Nat.le_of_ble_eq_true rfl) (Nat.le_of_ble_eq_true rfl) (Nat.le_of_ble_eq_true rfl) (Nat.le_of_ble_eq_true rfl) at_289 ?_
    rintro _ hp169 ⟨o, rfl, K169, E_o, F1, F2, F3, F4⟩
    replace O := O.keep K169 (all0)
    replace E_x1 := E_x1.keep K169
    replace B1 := B1.keep K169 nin0 nin0
    replace E_x2 := E_x2.keep K169
    replace B2 := B2.keep K169 nin0 nin0
    replace hz : n0 ≤ hp169.size := Nat.le_trans hz K169.1
    replace hlo : h0.size ≤ hp169.size := Nat.le_trans hlo K169.1
    show GW_law l Z EL s₀ n0 (fun v _ => v = some (.int 1)) h0.size [] hp169 9 115 292 #[.val (.int p0), .val (.int p1), .val (.int p2), .val (.int p3), .val (.int p4), .val (.int ca), .val (.int cb), .val (.int cc), .val (.int cd), .val (.ref x1), .val (.int m), .val .null, .val (.ref b2), .val (.ref x2), .unset] [(.ref o)]
    refine Go.astore (Ls' := #[.val (.int p0), .val (.int p1), .val (.int p2), .val (.int p3), .val (.int p4), .val (.int ca), .val (.int cb), .val (.int cc), .val (.int cd), .val (.ref x1), .val (.int m), .val .null, .val (.ref b2), .val (.ref x2), .val (.ref o)]) at_292 rfl rfl ?_
    refine Go.aload at_294 rfl rfl ?_
    -- at pc 296: pc 296: invokevirtual .invokevirtual 19 stack [(.ref o)]
    refine Go.callV (I' := IW Z EL s₀ h0.size []) (hI := wQ (ws := []) (fun v h' q => by obtain ⟨rfl, rfl⟩ := q; exact Keep.refl _ _) all0) o [] [] (ct_onw l Z a0 hw n0 o _ F1) E_o (wd_54 hw) (wd_55 hw) (nf_sel (wd_57 hw)) (wd_57 hw) (wd_56 hw) (wd_33 hw) (wd_58 hw) (by decide) pd_39 rfl rfl rfl (Nat.le_of_ble_eq_true rfl) (Nat.le_of_ble_eq_true rfl) (Nat.le_of_ble_eq_true rfl) (Nat.le_of_ble_eq_true rfl) at_296 ?_
    rintro _ _ ⟨rfl, rfl⟩
    show GW_law l Z EL s₀ n0 (fun v _ => v = some (.int 1)) h0.size [] hp169 9 115 299 #[.val (.int p0), .val (.int p1), .val (.int p2), .val (.int p3), .val (.int p4), .val (.int ca), .val (.int cb), .val (.int cc), .val (.int cd), .val (.ref x1), .val (.int m), .val .null, .val (.ref b2), .val (.ref x2), .val (.ref o)] [.null]
    refine Go.nullT 304 at_299 (by decide) (by decide) ?_
    refine Go.aload at_304 rfl rfl ?_
    refine Go.aload at_306 rfl rfl ?_
    -- at pc 308: pc 308: invokevirtual .invokevirtual 23 stack [(.ref o), (.ref x1)]
    refine Go.callV (I' := IW Z EL s₀ h0.size []) (hI := wQ (ws := []) (fun v h' q => by obtain ⟨rfl, rfl⟩ := q; exact Keep.refl _ _) all0) o [] [(.ref x1)] (ct_onk l Z a0 hw n0 o x1 _ F2) E_o (wd_59 hw) (wd_60 hw) (nf_sel (wd_62 hw)) (wd_62 hw) (wd_61 hw) (wd_33 hw) (wd_63 hw) (by decide) pd_36 rfl rfl rfl (Nat.le_of_ble_eq_true rfl) (Nat.le_of_ble_eq_true rfl) (Nat.le_of_ble_eq_true rfl) (Nat.le_of_ble_eq_true rfl) at_308 ?_
    rintro _ _ ⟨rfl, rfl⟩
    show GW_law l Z EL s₀ n0 (fun v _ => v = some (.int 1)) h0.size [] hp169 9 115 311 #[.val (.int p0), .val (.int p1), .val (.int p2), .val (.int p3), .val (.int p4), .val (.int ca), .val (.int cb), .val (.int cc), .val (.int cd), .val (.ref x1), .val (.int m), .val .null, .val (.ref b2), .val (.ref x2), .val (.ref o)] [(.ref x1), (.ref x1)]
    -- at pc 311: pc 311: invokevirtual .invokevirtual 27 stack [(.ref x1), (.ref x1)]
    refine Go.callV (I' := IW Z EL s₀ h0.size []) (hI := wQ (ws := []) (fun v h' q => by obtain ⟨rfl, rfl⟩ := q; exact Keep.refl _ _) all0) x1 [(.ref x1)] [] (ct_eqI l Z a0 hw n0 x1 _) E_x1 (wd_64 hw) (wd_65 hw) (nf_sel (wd_67 hw)) (wd_67 hw) (wd_66 hw) (wd_3 hw) (wd_68 hw) (by decide) pd_40 rfl rfl rfl (Nat.le_of_ble_eq_true rfl) (Nat.le_of_ble_eq_true rfl) (Nat.le_of_ble_eq_true rfl) (Nat.le_of_ble_eq_true rfl) at_311 ?_
    rintro _ _ ⟨rfl, rfl⟩
    show GW_law l Z EL s₀ n0 (fun v _ => v = some (.int 1)) h0.size [] hp169 9 115 314 #[.val (.int p0), .val (.int p1), .val (.int p2), .val (.int p3), .val (.int p4), .val (.int ca), .val (.int cb), .val (.int cc), .val (.int cd), .val (.ref x1), .val (.int m), .val .null, .val (.ref b2), .val (.ref x2), .val (.ref o)] [(.int (1 : Int32))]
    -- not: (1 : Int32) = (0 : Int32)
    refine Go.ifT 319 at_314 (feq (by decide)).2 (by decide) (by decide) ?_
    refine Go.iload at_319 rfl ?_
    -- at pc 321: pc 321: ifCond .ifCond .ne 13 stack [(.int m)]
    -- m = (0 : Int32)
    refine Go.ifF at_321 (teq (hm0)).2 ?_
    refine Go.aload at_324 rfl rfl ?_
    -- at pc 326: pc 326: invokevirtual .invokevirtual 31 stack [(.ref o)]
    refine Go.callV (I' := IW Z EL s₀ h0.size []) (hI := wQ (ws := []) (fun v h' q => by obtain ⟨rfl, rfl⟩ := q; exact Keep.refl _ _) all0) o [] [] (ct_ond l Z a0 hw n0 o .null rfl _ F3) E_o (wd_69 hw) (wd_70 hw) (nf_sel (wd_72 hw)) (wd_72 hw) (wd_71 hw) (wd_33 hw) (wd_73 hw) (by decide) pd_36 rfl rfl rfl (Nat.le_of_ble_eq_true rfl) (Nat.le_of_ble_eq_true rfl) (Nat.le_of_ble_eq_true rfl) (Nat.le_of_ble_eq_true rfl) at_326 ?_
    rintro _ _ ⟨rfl, rfl⟩
    show GW_law l Z EL s₀ n0 (fun v _ => v = some (.int 1)) h0.size [] hp169 9 115 329 #[.val (.int p0), .val (.int p1), .val (.int p2), .val (.int p3), .val (.int p4), .val (.int ca), .val (.int cb), .val (.int cc), .val (.int cd), .val (.ref x1), .val (.int m), .val .null, .val (.ref b2), .val (.ref x2), .val (.ref o)] [.null]
    refine Go.nullT 349 at_329 (by decide) (by decide) ?_
    refine Go.aload at_349 rfl rfl ?_
    -- at pc 351: pc 351: invokevirtual .invokevirtual 34 stack [(.ref o)]
    refine Go.callV (I' := IW Z EL s₀ h0.size []) (hI := wQ (ws := []) (fun v h' q => by obtain ⟨rfl, rfl⟩ := q; exact Keep.refl _ _) all0) o [] [] (ct_onx l Z a0 hw n0 o _ F4) E_o (wd_74 hw) (wd_75 hw) (nf_sel (wd_77 hw)) (wd_77 hw) (wd_76 hw) (wd_33 hw) (wd_78 hw) (by decide) pd_4 rfl rfl rfl (Nat.le_of_ble_eq_true rfl) (Nat.le_of_ble_eq_true rfl) (Nat.le_of_ble_eq_true rfl) (Nat.le_of_ble_eq_true rfl) at_351 ?_
    rintro _ _ ⟨rfl, rfl⟩
    show GW_law l Z EL s₀ n0 (fun v _ => v = some (.int 1)) h0.size [] hp169 9 115 354 #[.val (.int p0), .val (.int p1), .val (.int p2), .val (.int p3), .val (.int p4), .val (.int ca), .val (.int cb), .val (.int cc), .val (.int cd), .val (.ref x1), .val (.int m), .val .null, .val (.ref b2), .val (.ref x2), .val (.ref o)] [(.int (0 : Int32))]
    -- (0 : Int32) = (0 : Int32)
    refine Go.ifT 359 at_354 (teq (rfl)).1 (by decide) (by decide) ?_
    refine Go.aload at_359 rfl rfl ?_
    refine Go.aload at_361 rfl rfl ?_
    -- at pc 363: pc 363: invokevirtual .invokevirtual 38 stack [(.ref o), (.ref x2)]
    have lt_x2 := E_x2.lt
    refine GW.callV [] [] o [] [(.ref x2)] (ctw_textN l Z a0 hw n0 o x1 t1 k1 [ca, cb] _ hz O z S_cs hcs S_ad S_hi S_lo vf hvf S_f dg kd vd S_dg V_dg hd0 (Chr.cons o_ca (Chr.cons o_cb Chr.nil)) (Nat.le_of_ble_eq_true rfl) E_o F1 F2 F3 F4 B1) E_o hEL all0 all0 (wd_79 hw) (wd_80 hw) (nf_sel (wd_82 hw)) (wd_82 hw) (wd_81 hw) (wd_33 hw) (wd_83 hw) (by decide) pd_36 rfl rfl rfl (Nat.le_of_ble_eq_true rfl) (Nat.le_of_ble_eq_true rfl) (Nat.le_of_ble_eq_true rfl) (Nat.le_of_ble_eq_true rfl) at_363 ?_
    rintro _ hp175 ⟨r, u, k, rfl, K175, s_r, BR⟩ hgr175
    replace O := O.keep K175 (all0)
    replace E_x1 := E_x1.keep K175
    replace B1 := B1.keep K175 nin0 nin0
    replace E_x2 := E_x2.keep K175
    replace B2 := B2.keep K175 nin0 nin0
    replace E_o := E_o.keep K175
    replace F1 := F1.keep K175 nin0
    replace F2 := F2.keep K175 nin0
    replace F3 := F3.keep K175 nin0
    replace F4 := F4.keep K175 nin0
    replace hz : n0 ≤ hp175.size := Nat.le_trans hz K175.1
    replace hlo : h0.size ≤ hp175.size := Nat.le_trans hlo K175.1
    replace hlo : hp175.size ≤ hp175.size := Nat.le_refl _
    show GW_law l Z EL s₀ n0 (fun v _ => v = some (.int 1)) hp175.size [] hp175 21 319 366 #[.val (.int p0), .val (.int p1), .val (.int p2), .val (.int p3), .val (.int p4), .val (.int ca), .val (.int cb), .val (.int cc), .val (.int cd), .val (.ref x1), .val (.int m), .val .null, .val (.ref b2), .val (.ref x2), .val (.ref o)] [(.ref r), (.ref x2)]
    -- at pc 366: pc 366: invokevirtual .invokevirtual 27 stack [(.ref r), (.ref x2)]
    refine Go.callV (I' := IW Z EL s₀ hp175.size []) (hI := wQ (ws := []) (fun v h' q => by obtain ⟨rfl, rfl⟩ := q; exact Keep.refl _ _) all0) x2 [(.ref r)] [] (ct_eqC l Z a0 hw n0 x2 r t2 u k2 k [ca, cb, 91, 48, 93] _ O z S_cs hcs (Nat.ne_of_lt (Nat.lt_of_lt_of_le lt_x2 s_r)) (Nat.le_of_ble_eq_true rfl) B2 BR) E_x2 (wd_64 hw) (wd_65 hw) (nf_sel (wd_67 hw)) (wd_67 hw) (wd_66 hw) (wd_3 hw) (wd_68 hw) (by decide) pd_40 rfl rfl rfl (Nat.le_of_ble_eq_true rfl) (Nat.le_of_ble_eq_true rfl) (Nat.le_of_ble_eq_true rfl) (Nat.le_of_ble_eq_true rfl) at_366 ?_
    rintro _ _ ⟨rfl, rfl⟩
    show GW_law l Z EL s₀ n0 (fun v _ => v = some (.int 1)) hp175.size [] hp175 21 319 369 #[.val (.int p0), .val (.int p1), .val (.int p2), .val (.int p3), .val (.int p4), .val (.int ca), .val (.int cb), .val (.int cc), .val (.int cd), .val (.ref x1), .val (.int m), .val .null, .val (.ref b2), .val (.ref x2), .val (.ref o)] [(.int (1 : Int32))]
    -- at pc 369: pc 369: ireturn .ireturn stack [(.int (1 : Int32))]
    exact GW.nreturn .boolean hEL at_369 rfl (by simp) (by decide) (by decide) rfl
  · refine Go.ifT 97 at_58 (feq hm0).2 (by decide) (by decide) ?_
    refine Go.iload at_97 rfl ?_
    refine Go.iconst 1 at_99 rfl ?_
    -- at pc 100: pc 100: if_icmp .if_icmp .ne 48 stack [(.int (1 : Int32)), (.int m)]
    by_cases hm1 : m = (1 : Int32)
    · refine Go.icF at_100 (teq hm1).2 ?_
      -- at pc 103: pc 103: new .new 8 stack []
      refine Go.new (I' := IW Z EL s₀ h0.size []) (hI := wE) (wd_1 hw) (wd_2 hw) (wd_3 hw) at_103 (by decide) (by decide) fun hp177 y1 e_y1 X177 E_y1 D177 => ?_
      have K177 : Keep hp149 hp177 [] := (Keep.refl _ _).ext X177
      have g_y1 : n0 ≤ y1 := e_y1 ▸ hz
      have l_y1 : h0.size ≤ y1 := e_y1 ▸ hlo
      have ne_x1_y1 : x1 ≠ y1 := Nat.ne_of_lt (e_y1 ▸ E_x1.lt)
      have ne_t1_y1 : t1 ≠ y1 := Nat.ne_of_lt (e_y1 ▸ B1.lt2)
      replace O := O.keep K177 (all0)
      replace E_x1 := E_x1.keep K177
      replace B1 := B1.keep K177 nin0 nin0
      have F_y1_coder : Fld Z hp177 y1 "java/lang/String" "coder" "B" (.int (0 : Int32)) := D177 (Or.inr (wd_28 hw)) (ty := .byte) (by decide)
      have F_y1_value : Fld Z hp177 y1 "java/lang/String" "value" "[B" .null := D177 (Or.inr (wd_30 hw)) (ty := (.array .byte)) (by decide)
      replace hz : n0 ≤ hp177.size := Nat.le_trans hz K177.1
      replace hlo : h0.size ≤ hp177.size := Nat.le_trans hlo K177.1
      refine Go.dup at_106 rfl ?_
      refine Go.iconst 0 at_107 rfl ?_
      -- at pc 108: pc 108: newarray .newarray .char stack [(.int (0 : Int32)), (.ref y1), (.ref y1)]
      refine Go.newP (I' := IW Z EL s₀ h0.size []) (hI := wE) .char (wd_4 hw) rfl at_108 (by decide) 0 (by decide) (by decide) (by decide) (by decide) fun hp178 c1 k_c1 e_c1 X178 V_c1 => ?_
      have K178 : Keep hp177 hp178 [] := (Keep.refl _ _).ext X178
      have g_c1 : n0 ≤ c1 := e_c1 ▸ hz
      have l_c1 : h0.size ≤ c1 := e_c1 ▸ hlo
      have ne_x1_c1 : x1 ≠ c1 := Nat.ne_of_lt (e_c1 ▸ E_x1.lt)
      have ne_t1_c1 : t1 ≠ c1 := Nat.ne_of_lt (e_c1 ▸ B1.lt2)
      have ne_y1_c1 : y1 ≠ c1 := Nat.ne_of_lt (e_c1 ▸ E_y1.lt)
      replace O := O.keep K178 (all0)
      replace E_x1 := E_x1.keep K178
      replace B1 := B1.keep K178 nin0 nin0
      replace E_y1 := E_y1.keep K178
      replace F_y1_coder := F_y1_coder.keep K178 nin0
      replace F_y1_value := F_y1_value.keep K178 nin0
      replace V_c1 : Arv Z hp178 c1 k_c1 .char (0 : Int32) [] (.int (0 : Int32)) := V_c1.pad (pad_rep [] (.int (0 : Int32)) 0)
      replace hz : n0 ≤ hp178.size := Nat.le_trans hz K178.1
      replace hlo : h0.size ≤ hp178.size := Nat.le_trans hlo K178.1
      -- at pc 110: pc 110: invokespecial .invokespecial 10 stack [(.ref c1), (.ref y1), (.ref y1)]
      refine GW.callI [] [y1] y1 [(.ref c1)] [(.ref y1)] (ctw_si1E l Z a0 hw n0 y1 c1 k_c1 _ _ g_y1 E_y1 F_y1_value F_y1_coder V_c1) hEL (allS ⟨Or.inl l_y1, E_y1.lt⟩ all0) all0 (wd_5 hw) (wd_6 hw) (wd_3 hw) (wd_7 hw) (by decide) pd_37 rfl rfl rfl (Nat.le_of_ble_eq_true rfl) (Nat.le_of_ble_eq_true rfl) (Nat.le_of_ble_eq_true rfl) (Nat.le_of_ble_eq_true rfl) at_110 ?_
      rintro _ hp179 ⟨rfl, K179, w1, kw1, hS1⟩ hgr179
      replace O := O.keep K179 (allS g_y1 (all0))
      replace E_x1 := E_x1.keep K179
      replace B1 := B1.keep K179 (ninS ne_x1_y1 nin0) (ninS ne_t1_y1 nin0)
      replace E_y1 := E_y1.keep K179
      replace V_c1 := V_c1.keep K179 (ninS (Ne.symm ne_y1_c1) nin0)
      replace hz : n0 ≤ hp179.size := Nat.le_trans hz K179.1
      replace hlo : h0.size ≤ hp179.size := Nat.le_trans hlo K179.1
      replace hlo : hp179.size ≤ hp179.size := Nat.le_refl _
      show GW_law l Z EL s₀ n0 (fun v _ => v = some (.int 1)) hp179.size [] hp179 10 66 113 #[.val (.int p0), .val (.int p1), .val (.int p2), .val (.int p3), .val (.int p4), .val (.int ca), .val (.int cb), .val (.int cc), .val (.int cd), .val (.ref x1), .val (.int m), .unset, .unset, .unset, .unset] [(.ref y1)]
      have D1 : Cst Z hp179 y1 w1 kw1 [] := Or.inl ⟨Lat.nil, Byt.of hS1⟩
      refine Go.astore (Ls' := #[.val (.int p0), .val (.int p1), .val (.int p2), .val (.int p3), .val (.int p4), .val (.int ca), .val (.int cb), .val (.int cc), .val (.int cd), .val (.ref x1), .val (.int m), .val (.ref y1), .unset, .unset, .unset]) at_113 rfl rfl ?_
      refine Go.iconst 5 at_115 rfl ?_
      -- at pc 116: pc 116: newarray .newarray .char stack [(.int (5 : Int32))]
      refine Go.newP (I' := IW Z EL s₀ hp179.size []) (hI := wE) .char (wd_4 hw) rfl at_116 (by decide) 5 (by decide) (by decide) (by decide) (by decide) fun hp180 b3 k_b3 e_b3 X180 V_b3 => ?_
      have K180 : Keep hp179 hp180 [] := (Keep.refl _ _).ext X180
      have g_b3 : n0 ≤ b3 := e_b3 ▸ hz
      have l_b3 : hp179.size ≤ b3 := e_b3 ▸ hlo
      have ne_x1_b3 : x1 ≠ b3 := Nat.ne_of_lt (e_b3 ▸ E_x1.lt)
      have ne_t1_b3 : t1 ≠ b3 := Nat.ne_of_lt (e_b3 ▸ B1.lt2)
      have ne_y1_b3 : y1 ≠ b3 := Nat.ne_of_lt (e_b3 ▸ E_y1.lt)
      have ne_w1_b3 : w1 ≠ b3 := Nat.ne_of_lt (e_b3 ▸ D1.lt2)
      replace O := O.keep K180 (all0)
      replace E_x1 := E_x1.keep K180
      replace B1 := B1.keep K180 nin0 nin0
      replace E_y1 := E_y1.keep K180
      replace D1 := D1.keep K180 nin0 nin0
      replace V_b3 : Arv Z hp180 b3 k_b3 .char (5 : Int32) [(.int (0 : Int32)), (.int (0 : Int32)), (.int (0 : Int32)), (.int (0 : Int32)), (.int (0 : Int32))] (.int (0 : Int32)) := V_b3.pad (pad_rep [] (.int (0 : Int32)) 5)
      replace hz : n0 ≤ hp180.size := Nat.le_trans hz K180.1
      replace hlo : hp179.size ≤ hp180.size := Nat.le_trans hlo K180.1
      refine Go.dup at_118 rfl ?_
      refine Go.iconst 0 at_119 rfl ?_
      refine Go.iload at_120 rfl ?_
      refine Go.castore (I' := IW Z EL s₀ hp179.size []) (hI := wI (Sb.arv V_b3 (by decide))) V_b3 ⟨by decide, by decide⟩ g_b3 0 rfl (Nat.le_of_ble_eq_true rfl) at_122 fun hp181 K181 V_b3_n => ?_
      replace V_b3 : Arv Z hp181 b3 k_b3 .char (5 : Int32) [(.int (nar .char ca)), (.int (0 : Int32)), (.int (0 : Int32)), (.int (0 : Int32)), (.int (0 : Int32))] (.int (0 : Int32)) := V_b3_n
      replace O := O.keep K181 (allS g_b3 (all0))
      replace E_x1 := E_x1.keep K181
      replace B1 := B1.keep K181 (ninS ne_x1_b3 nin0) (ninS ne_t1_b3 nin0)
      replace E_y1 := E_y1.keep K181
      replace D1 := D1.keep K181 (ninS ne_y1_b3 nin0) (ninS ne_w1_b3 nin0)
      replace hz : n0 ≤ hp181.size := Nat.le_trans hz K181.1
      replace hlo : hp179.size ≤ hp181.size := Nat.le_trans hlo K181.1
      rw [(own_narc o_ca)] at V_b3
      refine Go.dup at_123 rfl ?_
      refine Go.iconst 1 at_124 rfl ?_
      refine Go.iload at_125 rfl ?_
      refine Go.castore (I' := IW Z EL s₀ hp179.size []) (hI := wI (Sb.arv V_b3 (by decide))) V_b3 ⟨by decide, by decide⟩ g_b3 1 rfl (Nat.le_of_ble_eq_true rfl) at_127 fun hp182 K182 V_b3_n => ?_
      replace V_b3 : Arv Z hp182 b3 k_b3 .char (5 : Int32) [(.int ca), (.int (nar .char cb)), (.int (0 : Int32)), (.int (0 : Int32)), (.int (0 : Int32))] (.int (0 : Int32)) := V_b3_n
      replace O := O.keep K182 (allS g_b3 (all0))
      replace E_x1 := E_x1.keep K182
      replace B1 := B1.keep K182 (ninS ne_x1_b3 nin0) (ninS ne_t1_b3 nin0)
      replace E_y1 := E_y1.keep K182
      replace D1 := D1.keep K182 (ninS ne_y1_b3 nin0) (ninS ne_w1_b3 nin0)
      replace hz : n0 ≤ hp182.size := Nat.le_trans hz K182.1
      replace hlo : hp179.size ≤ hp182.size := Nat.le_trans hlo K182.1
      rw [(own_narc o_cb)] at V_b3
      refine Go.dup at_128 rfl ?_
      refine Go.iconst 2 at_129 rfl ?_
      refine Go.bipush 32 at_130 rfl ?_
      refine Go.castore (I' := IW Z EL s₀ hp179.size []) (hI := wI (Sb.arv V_b3 (by decide))) V_b3 ⟨by decide, by decide⟩ g_b3 2 rfl (Nat.le_of_ble_eq_true rfl) at_132 fun hp183 K183 V_b3_n => ?_
      replace V_b3 : Arv Z hp183 b3 k_b3 .char (5 : Int32) [(.int ca), (.int cb), (.int (nar .char (32 : Int32))), (.int (0 : Int32)), (.int (0 : Int32))] (.int (0 : Int32)) := V_b3_n
      replace O := O.keep K183 (allS g_b3 (all0))
      replace E_x1 := E_x1.keep K183
      replace B1 := B1.keep K183 (ninS ne_x1_b3 nin0) (ninS ne_t1_b3 nin0)
      replace E_y1 := E_y1.keep K183
      replace D1 := D1.keep K183 (ninS ne_y1_b3 nin0) (ninS ne_w1_b3 nin0)
      replace hz : n0 ≤ hp183.size := Nat.le_trans hz K183.1
      replace hlo : hp179.size ≤ hp183.size := Nat.le_trans hlo K183.1
      rw [(show nar .char (32 : Int32) = 32 from rfl)] at V_b3
      refine Go.dup at_133 rfl ?_
      refine Go.iconst 3 at_134 rfl ?_
      refine Go.bipush 34 at_135 rfl ?_
      refine Go.castore (I' := IW Z EL s₀ hp179.size []) (hI := wI (Sb.arv V_b3 (by decide))) V_b3 ⟨by decide, by decide⟩ g_b3 3 rfl (Nat.le_of_ble_eq_true rfl) at_137 fun hp184 K184 V_b3_n => ?_
      replace V_b3 : Arv Z hp184 b3 k_b3 .char (5 : Int32) [(.int ca), (.int cb), (.int (32 : Int32)), (.int (nar .char (34 : Int32))), (.int (0 : Int32))] (.int (0 : Int32)) := V_b3_n
      replace O := O.keep K184 (allS g_b3 (all0))
      replace E_x1 := E_x1.keep K184
      replace B1 := B1.keep K184 (ninS ne_x1_b3 nin0) (ninS ne_t1_b3 nin0)
      replace E_y1 := E_y1.keep K184
      replace D1 := D1.keep K184 (ninS ne_y1_b3 nin0) (ninS ne_w1_b3 nin0)
      replace hz : n0 ≤ hp184.size := Nat.le_trans hz K184.1
      replace hlo : hp179.size ≤ hp184.size := Nat.le_trans hlo K184.1
      rw [(show nar .char (34 : Int32) = 34 from rfl)] at V_b3
      refine Go.dup at_138 rfl ?_
      refine Go.iconst 4 at_139 rfl ?_
      refine Go.bipush 34 at_140 rfl ?_
      refine Go.castore (I' := IW Z EL s₀ hp179.size []) (hI := wI (Sb.arv V_b3 (by decide))) V_b3 ⟨by decide, by decide⟩ g_b3 4 rfl (Nat.le_of_ble_eq_true rfl) at_142 fun hp185 K185 V_b3_n => ?_
      replace V_b3 : Arv Z hp185 b3 k_b3 .char (5 : Int32) [(.int ca), (.int cb), (.int (32 : Int32)), (.int (34 : Int32)), (.int (nar .char (34 : Int32)))] (.int (0 : Int32)) := V_b3_n
      replace O := O.keep K185 (allS g_b3 (all0))
      replace E_x1 := E_x1.keep K185
      replace B1 := B1.keep K185 (ninS ne_x1_b3 nin0) (ninS ne_t1_b3 nin0)
      replace E_y1 := E_y1.keep K185
      replace D1 := D1.keep K185 (ninS ne_y1_b3 nin0) (ninS ne_w1_b3 nin0)
      replace hz : n0 ≤ hp185.size := Nat.le_trans hz K185.1
      replace hlo : hp179.size ≤ hp185.size := Nat.le_trans hlo K185.1
      rw [(show nar .char (34 : Int32) = 34 from rfl)] at V_b3
      refine Go.astore (Ls' := #[.val (.int p0), .val (.int p1), .val (.int p2), .val (.int p3), .val (.int p4), .val (.int ca), .val (.int cb), .val (.int cc), .val (.int cd), .val (.ref x1), .val (.int m), .val (.ref y1), .val (.ref b3), .unset, .unset]) at_143 rfl rfl ?_
      refine Go.goto 274 at_145 (by decide) (by decide) ?_
      exact (j274 _ _ y1 w1 b3 kw1 k_b3 [] [ca, cb, 32, 34, 34] rfl hm0 (Nat.le_of_ble_eq_true rfl) Chr.nil hlo hz O E_x1 B1 D1 V_b3).more (by decide) (by decide)
    · refine Go.icT 148 at_100 (feq hm1).2 (by decide) (by decide) ?_
      refine Go.iload at_148 rfl ?_
      refine Go.iconst 2 at_150 rfl ?_
      -- at pc 151: pc 151: if_icmp .if_icmp .ne 59 stack [(.int (2 : Int32)), (.int m)]
      by_cases hm2 : m = (2 : Int32)
      · refine Go.icF at_151 (teq hm2).2 ?_
        -- at pc 154: pc 154: new .new 8 stack []
        refine Go.new (I' := IW Z EL s₀ h0.size []) (hI := wE) (wd_1 hw) (wd_2 hw) (wd_3 hw) at_154 (by decide) (by decide) fun hp186 y1 e_y1 X186 E_y1 D186 => ?_
        have K186 : Keep hp149 hp186 [] := (Keep.refl _ _).ext X186
        have g_y1 : n0 ≤ y1 := e_y1 ▸ hz
        have l_y1 : h0.size ≤ y1 := e_y1 ▸ hlo
        have ne_x1_y1 : x1 ≠ y1 := Nat.ne_of_lt (e_y1 ▸ E_x1.lt)
        have ne_t1_y1 : t1 ≠ y1 := Nat.ne_of_lt (e_y1 ▸ B1.lt2)
        replace O := O.keep K186 (all0)
        replace E_x1 := E_x1.keep K186
        replace B1 := B1.keep K186 nin0 nin0
        have F_y1_coder : Fld Z hp186 y1 "java/lang/String" "coder" "B" (.int (0 : Int32)) := D186 (Or.inr (wd_28 hw)) (ty := .byte) (by decide)
        have F_y1_value : Fld Z hp186 y1 "java/lang/String" "value" "[B" .null := D186 (Or.inr (wd_30 hw)) (ty := (.array .byte)) (by decide)
        replace hz : n0 ≤ hp186.size := Nat.le_trans hz K186.1
        replace hlo : h0.size ≤ hp186.size := Nat.le_trans hlo K186.1
        refine Go.dup at_157 rfl ?_
        refine Go.iconst 1 at_158 rfl ?_
        -- at pc 159: pc 159: newarray .newarray .char stack [(.int (1 : Int32)), (.ref y1), (.ref y1)]
        refine Go.newP (I' := IW Z EL s₀ h0.size []) (hI := wE) .char (wd_4 hw) rfl at_159 (by decide) 1 (by decide) (by decide) (by decide) (by decide) fun hp187 c1 k_c1 e_c1 X187 V_c1 => ?_
        have K187 : Keep hp186 hp187 [] := (Keep.refl _ _).ext X187
        have g_c1 : n0 ≤ c1 := e_c1 ▸ hz
        have l_c1 : h0.size ≤ c1 := e_c1 ▸ hlo
        have ne_x1_c1 : x1 ≠ c1 := Nat.ne_of_lt (e_c1 ▸ E_x1.lt)
        have ne_t1_c1 : t1 ≠ c1 := Nat.ne_of_lt (e_c1 ▸ B1.lt2)
        have ne_y1_c1 : y1 ≠ c1 := Nat.ne_of_lt (e_c1 ▸ E_y1.lt)
        replace O := O.keep K187 (all0)
        replace E_x1 := E_x1.keep K187
        replace B1 := B1.keep K187 nin0 nin0
        replace E_y1 := E_y1.keep K187
        replace F_y1_coder := F_y1_coder.keep K187 nin0
        replace F_y1_value := F_y1_value.keep K187 nin0
        replace V_c1 : Arv Z hp187 c1 k_c1 .char (1 : Int32) [(.int (0 : Int32))] (.int (0 : Int32)) := V_c1.pad (pad_rep [] (.int (0 : Int32)) 1)
        replace hz : n0 ≤ hp187.size := Nat.le_trans hz K187.1
        replace hlo : h0.size ≤ hp187.size := Nat.le_trans hlo K187.1
        refine Go.dup at_161 rfl ?_
        refine Go.iconst 0 at_162 rfl ?_
        refine Go.iload at_163 rfl ?_
        refine Go.castore (I' := IW Z EL s₀ h0.size []) (hI := wI (Sb.arv V_c1 (by decide))) V_c1 ⟨by decide, by decide⟩ g_c1 0 rfl (Nat.le_of_ble_eq_true rfl) at_165 fun hp188 K188 V_c1_n => ?_
        replace V_c1 : Arv Z hp188 c1 k_c1 .char (1 : Int32) [(.int (nar .char cc))] (.int (0 : Int32)) := V_c1_n
        replace O := O.keep K188 (allS g_c1 (all0))
        replace E_x1 := E_x1.keep K188
        replace B1 := B1.keep K188 (ninS ne_x1_c1 nin0) (ninS ne_t1_c1 nin0)
        replace E_y1 := E_y1.keep K188
        replace F_y1_coder := F_y1_coder.keep K188 (ninS ne_y1_c1 nin0)
        replace F_y1_value := F_y1_value.keep K188 (ninS ne_y1_c1 nin0)
        replace hz : n0 ≤ hp188.size := Nat.le_trans hz K188.1
        replace hlo : h0.size ≤ hp188.size := Nat.le_trans hlo K188.1
        rw [(own_narc o_cc)] at V_c1
        refine Go.callI (I' := IW Z EL s₀ h0.size []) (hI := wQ (ws := [y1]) (fun v h' q => by obtain ⟨rfl, K189, w1, kw1, g_w1, s_w1, D1⟩ := q; exact K189) (allS (Sb.up l_y1) all0)) y1 [(.ref c1)] [(.ref y1)] (ct_newC l Z a0 hw n0 y1 c1 k_c1 [cc] _ hz O z S_cs hcs S_ad S_hi S_lo (Nat.le_of_ble_eq_true rfl) (Nat.le_of_ble_eq_true rfl) (Chr.cons o_cc Chr.nil) g_y1 ne_y1_c1 E_y1 F_y1_value F_y1_coder V_c1) (wd_5 hw) (wd_6 hw) (wd_3 hw) (wd_7 hw) (by decide) pd_37 rfl rfl rfl (Nat.le_of_ble_eq_true rfl) (Nat.le_of_ble_eq_true rfl) (Nat.le_of_ble_eq_true rfl) (Nat.le_of_ble_eq_true rfl) at_166 ?_
        rintro _ hp189 ⟨rfl, K189, w1, kw1, g_w1, s_w1, D1⟩
        replace O := O.keep K189 (allS g_y1 (all0))
        replace E_x1 := E_x1.keep K189
        replace B1 := B1.keep K189 (ninS ne_x1_y1 nin0) (ninS ne_t1_y1 nin0)
        replace E_y1 := E_y1.keep K189
        replace V_c1 := V_c1.keep K189 (ninS (Ne.symm ne_y1_c1) nin0)
        replace hz : n0 ≤ hp189.size := Nat.le_trans hz K189.1
        replace hlo : h0.size ≤ hp189.size := Nat.le_trans hlo K189.1
        show GW_law l Z EL s₀ n0 (fun v _ => v = some (.int 1)) h0.size [] hp189 8 107 169 #[.val (.int p0), .val (.int p1), .val (.int p2), .val (.int p3), .val (.int p4), .val (.int ca), .val (.int cb), .val (.int cc), .val (.int cd), .val (.ref x1), .val (.int m), .unset, .unset, .unset, .unset] [(.ref y1)]
        refine Go.astore (Ls' := #[.val (.int p0), .val (.int p1), .val (.int p2), .val (.int p3), .val (.int p4), .val (.int ca), .val (.int cb), .val (.int cc), .val (.int cd), .val (.ref x1), .val (.int m), .val (.ref y1), .unset, .unset, .unset]) at_169 rfl rfl ?_
        refine Go.bipush 6 at_171 rfl ?_
        -- at pc 173: pc 173: newarray .newarray .char stack [(.int (6 : Int32))]
        refine Go.newP (I' := IW Z EL s₀ h0.size []) (hI := wE) .char (wd_4 hw) rfl at_173 (by decide) 6 (by decide) (by decide) (by decide) (by decide) fun hp190 b3 k_b3 e_b3 X190 V_b3 => ?_
        have K190 : Keep hp189 hp190 [] := (Keep.refl _ _).ext X190
        have g_b3 : n0 ≤ b3 := e_b3 ▸ hz
        have l_b3 : h0.size ≤ b3 := e_b3 ▸ hlo
        have ne_x1_b3 : x1 ≠ b3 := Nat.ne_of_lt (e_b3 ▸ E_x1.lt)
        have ne_t1_b3 : t1 ≠ b3 := Nat.ne_of_lt (e_b3 ▸ B1.lt2)
        have ne_y1_b3 : y1 ≠ b3 := Nat.ne_of_lt (e_b3 ▸ E_y1.lt)
        have ne_w1_b3 : w1 ≠ b3 := Nat.ne_of_lt (e_b3 ▸ D1.lt2)
        replace O := O.keep K190 (all0)
        replace E_x1 := E_x1.keep K190
        replace B1 := B1.keep K190 nin0 nin0
        replace E_y1 := E_y1.keep K190
        replace D1 := D1.keep K190 nin0 nin0
        replace V_b3 : Arv Z hp190 b3 k_b3 .char (6 : Int32) [(.int (0 : Int32)), (.int (0 : Int32)), (.int (0 : Int32)), (.int (0 : Int32)), (.int (0 : Int32)), (.int (0 : Int32))] (.int (0 : Int32)) := V_b3.pad (pad_rep [] (.int (0 : Int32)) 6)
        replace hz : n0 ≤ hp190.size := Nat.le_trans hz K190.1
        replace hlo : h0.size ≤ hp190.size := Nat.le_trans hlo K190.1
        refine Go.dup at_175 rfl ?_
        refine Go.iconst 0 at_176 rfl ?_
        refine Go.iload at_177 rfl ?_
        refine Go.castore (I' := IW Z EL s₀ h0.size []) (hI := wI (Sb.arv V_b3 (by decide))) V_b3 ⟨by decide, by decide⟩ g_b3 0 rfl (Nat.le_of_ble_eq_true rfl) at_179 fun hp191 K191 V_b3_n => ?_
        replace V_b3 : Arv Z hp191 b3 k_b3 .char (6 : Int32) [(.int (nar .char ca)), (.int (0 : Int32)), (.int (0 : Int32)), (.int (0 : Int32)), (.int (0 : Int32)), (.int (0 : Int32))] (.int (0 : Int32)) := V_b3_n
        replace O := O.keep K191 (allS g_b3 (all0))
        replace E_x1 := E_x1.keep K191
        replace B1 := B1.keep K191 (ninS ne_x1_b3 nin0) (ninS ne_t1_b3 nin0)
        replace E_y1 := E_y1.keep K191
        replace D1 := D1.keep K191 (ninS ne_y1_b3 nin0) (ninS ne_w1_b3 nin0)
        replace hz : n0 ≤ hp191.size := Nat.le_trans hz K191.1
        replace hlo : h0.size ≤ hp191.size := Nat.le_trans hlo K191.1
        rw [(own_narc o_ca)] at V_b3
        refine Go.dup at_180 rfl ?_
        refine Go.iconst 1 at_181 rfl ?_
        refine Go.iload at_182 rfl ?_
        refine Go.castore (I' := IW Z EL s₀ h0.size []) (hI := wI (Sb.arv V_b3 (by decide))) V_b3 ⟨by decide, by decide⟩ g_b3 1 rfl (Nat.le_of_ble_eq_true rfl) at_184 fun hp192 K192 V_b3_n => ?_
        replace V_b3 : Arv Z hp192 b3 k_b3 .char (6 : Int32) [(.int ca), (.int (nar .char cb)), (.int (0 : Int32)), (.int (0 : Int32)), (.int (0 : Int32)), (.int (0 : Int32))] (.int (0 : Int32)) := V_b3_n
        replace O := O.keep K192 (allS g_b3 (all0))
        replace E_x1 := E_x1.keep K192
        replace B1 := B1.keep K192 (ninS ne_x1_b3 nin0) (ninS ne_t1_b3 nin0)
        replace E_y1 := E_y1.keep K192
        replace D1 := D1.keep K192 (ninS ne_y1_b3 nin0) (ninS ne_w1_b3 nin0)
        replace hz : n0 ≤ hp192.size := Nat.le_trans hz K192.1
        replace hlo : h0.size ≤ hp192.size := Nat.le_trans hlo K192.1
        rw [(own_narc o_cb)] at V_b3
        refine Go.dup at_185 rfl ?_
        refine Go.iconst 2 at_186 rfl ?_
        refine Go.bipush 32 at_187 rfl ?_
        refine Go.castore (I' := IW Z EL s₀ h0.size []) (hI := wI (Sb.arv V_b3 (by decide))) V_b3 ⟨by decide, by decide⟩ g_b3 2 rfl (Nat.le_of_ble_eq_true rfl) at_189 fun hp193 K193 V_b3_n => ?_
        replace V_b3 : Arv Z hp193 b3 k_b3 .char (6 : Int32) [(.int ca), (.int cb), (.int (nar .char (32 : Int32))), (.int (0 : Int32)), (.int (0 : Int32)), (.int (0 : Int32))] (.int (0 : Int32)) := V_b3_n
        replace O := O.keep K193 (allS g_b3 (all0))
        replace E_x1 := E_x1.keep K193
        replace B1 := B1.keep K193 (ninS ne_x1_b3 nin0) (ninS ne_t1_b3 nin0)
        replace E_y1 := E_y1.keep K193
        replace D1 := D1.keep K193 (ninS ne_y1_b3 nin0) (ninS ne_w1_b3 nin0)
        replace hz : n0 ≤ hp193.size := Nat.le_trans hz K193.1
        replace hlo : h0.size ≤ hp193.size := Nat.le_trans hlo K193.1
        rw [(show nar .char (32 : Int32) = 32 from rfl)] at V_b3
        refine Go.dup at_190 rfl ?_
        refine Go.iconst 3 at_191 rfl ?_
        refine Go.bipush 34 at_192 rfl ?_
        refine Go.castore (I' := IW Z EL s₀ h0.size []) (hI := wI (Sb.arv V_b3 (by decide))) V_b3 ⟨by decide, by decide⟩ g_b3 3 rfl (Nat.le_of_ble_eq_true rfl) at_194 fun hp194 K194 V_b3_n => ?_
        replace V_b3 : Arv Z hp194 b3 k_b3 .char (6 : Int32) [(.int ca), (.int cb), (.int (32 : Int32)), (.int (nar .char (34 : Int32))), (.int (0 : Int32)), (.int (0 : Int32))] (.int (0 : Int32)) := V_b3_n
        replace O := O.keep K194 (allS g_b3 (all0))
        replace E_x1 := E_x1.keep K194
        replace B1 := B1.keep K194 (ninS ne_x1_b3 nin0) (ninS ne_t1_b3 nin0)
        replace E_y1 := E_y1.keep K194
        replace D1 := D1.keep K194 (ninS ne_y1_b3 nin0) (ninS ne_w1_b3 nin0)
        replace hz : n0 ≤ hp194.size := Nat.le_trans hz K194.1
        replace hlo : h0.size ≤ hp194.size := Nat.le_trans hlo K194.1
        rw [(show nar .char (34 : Int32) = 34 from rfl)] at V_b3
        refine Go.dup at_195 rfl ?_
        refine Go.iconst 4 at_196 rfl ?_
        refine Go.iload at_197 rfl ?_
        refine Go.castore (I' := IW Z EL s₀ h0.size []) (hI := wI (Sb.arv V_b3 (by decide))) V_b3 ⟨by decide, by decide⟩ g_b3 4 rfl (Nat.le_of_ble_eq_true rfl) at_199 fun hp195 K195 V_b3_n => ?_
        replace V_b3 : Arv Z hp195 b3 k_b3 .char (6 : Int32) [(.int ca), (.int cb), (.int (32 : Int32)), (.int (34 : Int32)), (.int (nar .char cc)), (.int (0 : Int32))] (.int (0 : Int32)) := V_b3_n
        replace O := O.keep K195 (allS g_b3 (all0))
        replace E_x1 := E_x1.keep K195
        replace B1 := B1.keep K195 (ninS ne_x1_b3 nin0) (ninS ne_t1_b3 nin0)
        replace E_y1 := E_y1.keep K195
        replace D1 := D1.keep K195 (ninS ne_y1_b3 nin0) (ninS ne_w1_b3 nin0)
        replace hz : n0 ≤ hp195.size := Nat.le_trans hz K195.1
        replace hlo : h0.size ≤ hp195.size := Nat.le_trans hlo K195.1
        rw [(own_narc o_cc)] at V_b3
        refine Go.dup at_200 rfl ?_
        refine Go.iconst 5 at_201 rfl ?_
        refine Go.bipush 34 at_202 rfl ?_
        refine Go.castore (I' := IW Z EL s₀ h0.size []) (hI := wI (Sb.arv V_b3 (by decide))) V_b3 ⟨by decide, by decide⟩ g_b3 5 rfl (Nat.le_of_ble_eq_true rfl) at_204 fun hp196 K196 V_b3_n => ?_
        replace V_b3 : Arv Z hp196 b3 k_b3 .char (6 : Int32) [(.int ca), (.int cb), (.int (32 : Int32)), (.int (34 : Int32)), (.int cc), (.int (nar .char (34 : Int32)))] (.int (0 : Int32)) := V_b3_n
        replace O := O.keep K196 (allS g_b3 (all0))
        replace E_x1 := E_x1.keep K196
        replace B1 := B1.keep K196 (ninS ne_x1_b3 nin0) (ninS ne_t1_b3 nin0)
        replace E_y1 := E_y1.keep K196
        replace D1 := D1.keep K196 (ninS ne_y1_b3 nin0) (ninS ne_w1_b3 nin0)
        replace hz : n0 ≤ hp196.size := Nat.le_trans hz K196.1
        replace hlo : h0.size ≤ hp196.size := Nat.le_trans hlo K196.1
        rw [(show nar .char (34 : Int32) = 34 from rfl)] at V_b3
        refine Go.astore (Ls' := #[.val (.int p0), .val (.int p1), .val (.int p2), .val (.int p3), .val (.int p4), .val (.int ca), .val (.int cb), .val (.int cc), .val (.int cd), .val (.ref x1), .val (.int m), .val (.ref y1), .val (.ref b3), .unset, .unset]) at_205 rfl rfl ?_
        refine Go.goto 274 at_207 (by decide) (by decide) ?_
        exact (j274 _ _ y1 w1 b3 kw1 k_b3 [cc] [ca, cb, 32, 34, cc, 34] rfl hm0 (Nat.le_of_ble_eq_true rfl) (Chr.cons o_cc Chr.nil) hlo hz O E_x1 B1 D1 V_b3).more (by decide) (by decide)
      · refine Go.icT 210 at_151 (feq hm2).2 (by decide) (by decide) ?_
        -- at pc 210: pc 210: new .new 8 stack []
        refine Go.new (I' := IW Z EL s₀ h0.size []) (hI := wE) (wd_1 hw) (wd_2 hw) (wd_3 hw) at_210 (by decide) (by decide) fun hp197 y1 e_y1 X197 E_y1 D197 => ?_
        have K197 : Keep hp149 hp197 [] := (Keep.refl _ _).ext X197
        have g_y1 : n0 ≤ y1 := e_y1 ▸ hz
        have l_y1 : h0.size ≤ y1 := e_y1 ▸ hlo
        have ne_x1_y1 : x1 ≠ y1 := Nat.ne_of_lt (e_y1 ▸ E_x1.lt)
        have ne_t1_y1 : t1 ≠ y1 := Nat.ne_of_lt (e_y1 ▸ B1.lt2)
        replace O := O.keep K197 (all0)
        replace E_x1 := E_x1.keep K197
        replace B1 := B1.keep K197 nin0 nin0
        have F_y1_coder : Fld Z hp197 y1 "java/lang/String" "coder" "B" (.int (0 : Int32)) := D197 (Or.inr (wd_28 hw)) (ty := .byte) (by decide)
        have F_y1_value : Fld Z hp197 y1 "java/lang/String" "value" "[B" .null := D197 (Or.inr (wd_30 hw)) (ty := (.array .byte)) (by decide)
        replace hz : n0 ≤ hp197.size := Nat.le_trans hz K197.1
        replace hlo : h0.size ≤ hp197.size := Nat.le_trans hlo K197.1
        refine Go.dup at_213 rfl ?_
        refine Go.iconst 2 at_214 rfl ?_
        -- at pc 215: pc 215: newarray .newarray .char stack [(.int (2 : Int32)), (.ref y1), (.ref y1)]
        refine Go.newP (I' := IW Z EL s₀ h0.size []) (hI := wE) .char (wd_4 hw) rfl at_215 (by decide) 2 (by decide) (by decide) (by decide) (by decide) fun hp198 c1 k_c1 e_c1 X198 V_c1 => ?_
        have K198 : Keep hp197 hp198 [] := (Keep.refl _ _).ext X198
        have g_c1 : n0 ≤ c1 := e_c1 ▸ hz
        have l_c1 : h0.size ≤ c1 := e_c1 ▸ hlo
        have ne_x1_c1 : x1 ≠ c1 := Nat.ne_of_lt (e_c1 ▸ E_x1.lt)
        have ne_t1_c1 : t1 ≠ c1 := Nat.ne_of_lt (e_c1 ▸ B1.lt2)
        have ne_y1_c1 : y1 ≠ c1 := Nat.ne_of_lt (e_c1 ▸ E_y1.lt)
        replace O := O.keep K198 (all0)
        replace E_x1 := E_x1.keep K198
        replace B1 := B1.keep K198 nin0 nin0
        replace E_y1 := E_y1.keep K198
        replace F_y1_coder := F_y1_coder.keep K198 nin0
        replace F_y1_value := F_y1_value.keep K198 nin0
        replace V_c1 : Arv Z hp198 c1 k_c1 .char (2 : Int32) [(.int (0 : Int32)), (.int (0 : Int32))] (.int (0 : Int32)) := V_c1.pad (pad_rep [] (.int (0 : Int32)) 2)
        replace hz : n0 ≤ hp198.size := Nat.le_trans hz K198.1
        replace hlo : h0.size ≤ hp198.size := Nat.le_trans hlo K198.1
        refine Go.dup at_217 rfl ?_
        refine Go.iconst 0 at_218 rfl ?_
        refine Go.iload at_219 rfl ?_
        refine Go.castore (I' := IW Z EL s₀ h0.size []) (hI := wI (Sb.arv V_c1 (by decide))) V_c1 ⟨by decide, by decide⟩ g_c1 0 rfl (Nat.le_of_ble_eq_true rfl) at_221 fun hp199 K199 V_c1_n => ?_
        replace V_c1 : Arv Z hp199 c1 k_c1 .char (2 : Int32) [(.int (nar .char cc)), (.int (0 : Int32))] (.int (0 : Int32)) := V_c1_n
        replace O := O.keep K199 (allS g_c1 (all0))
        replace E_x1 := E_x1.keep K199
        replace B1 := B1.keep K199 (ninS ne_x1_c1 nin0) (ninS ne_t1_c1 nin0)
        replace E_y1 := E_y1.keep K199
        replace F_y1_coder := F_y1_coder.keep K199 (ninS ne_y1_c1 nin0)
        replace F_y1_value := F_y1_value.keep K199 (ninS ne_y1_c1 nin0)
        replace hz : n0 ≤ hp199.size := Nat.le_trans hz K199.1
        replace hlo : h0.size ≤ hp199.size := Nat.le_trans hlo K199.1
        rw [(own_narc o_cc)] at V_c1
        refine Go.dup at_222 rfl ?_
        refine Go.iconst 1 at_223 rfl ?_
        refine Go.iload at_224 rfl ?_
        refine Go.castore (I' := IW Z EL s₀ h0.size []) (hI := wI (Sb.arv V_c1 (by decide))) V_c1 ⟨by decide, by decide⟩ g_c1 1 rfl (Nat.le_of_ble_eq_true rfl) at_226 fun hp200 K200 V_c1_n => ?_
        replace V_c1 : Arv Z hp200 c1 k_c1 .char (2 : Int32) [(.int cc), (.int (nar .char cd))] (.int (0 : Int32)) := V_c1_n
        replace O := O.keep K200 (allS g_c1 (all0))
        replace E_x1 := E_x1.keep K200
        replace B1 := B1.keep K200 (ninS ne_x1_c1 nin0) (ninS ne_t1_c1 nin0)
        replace E_y1 := E_y1.keep K200
        replace F_y1_coder := F_y1_coder.keep K200 (ninS ne_y1_c1 nin0)
        replace F_y1_value := F_y1_value.keep K200 (ninS ne_y1_c1 nin0)
        replace hz : n0 ≤ hp200.size := Nat.le_trans hz K200.1
        replace hlo : h0.size ≤ hp200.size := Nat.le_trans hlo K200.1
        rw [(own_narc o_cd)] at V_c1
        refine Go.callI (I' := IW Z EL s₀ h0.size []) (hI := wQ (ws := [y1]) (fun v h' q => by obtain ⟨rfl, K201, w1, kw1, g_w1, s_w1, D1⟩ := q; exact K201) (allS (Sb.up l_y1) all0)) y1 [(.ref c1)] [(.ref y1)] (ct_newC l Z a0 hw n0 y1 c1 k_c1 [cc, cd] _ hz O z S_cs hcs S_ad S_hi S_lo (Nat.le_of_ble_eq_true rfl) (Nat.le_of_ble_eq_true rfl) (Chr.cons o_cc (Chr.cons o_cd Chr.nil)) g_y1 ne_y1_c1 E_y1 F_y1_value F_y1_coder V_c1) (wd_5 hw) (wd_6 hw) (wd_3 hw) (wd_7 hw) (by decide) pd_37 rfl rfl rfl (Nat.le_of_ble_eq_true rfl) (Nat.le_of_ble_eq_true rfl) (Nat.le_of_ble_eq_true rfl) (Nat.le_of_ble_eq_true rfl) at_227 ?_
        rintro _ hp201 ⟨rfl, K201, w1, kw1, g_w1, s_w1, D1⟩
        replace O := O.keep K201 (allS g_y1 (all0))
        replace E_x1 := E_x1.keep K201
        replace B1 := B1.keep K201 (ninS ne_x1_y1 nin0) (ninS ne_t1_y1 nin0)
        replace E_y1 := E_y1.keep K201
        replace V_c1 := V_c1.keep K201 (ninS (Ne.symm ne_y1_c1) nin0)
        replace hz : n0 ≤ hp201.size := Nat.le_trans hz K201.1
        replace hlo : h0.size ≤ hp201.size := Nat.le_trans hlo K201.1
        show GW_law l Z EL s₀ n0 (fun v _ => v = some (.int 1)) h0.size [] hp201 8 108 230 #[.val (.int p0), .val (.int p1), .val (.int p2), .val (.int p3), .val (.int p4), .val (.int ca), .val (.int cb), .val (.int cc), .val (.int cd), .val (.ref x1), .val (.int m), .unset, .unset, .unset, .unset] [(.ref y1)]
        refine Go.astore (Ls' := #[.val (.int p0), .val (.int p1), .val (.int p2), .val (.int p3), .val (.int p4), .val (.int ca), .val (.int cb), .val (.int cc), .val (.int cd), .val (.ref x1), .val (.int m), .val (.ref y1), .unset, .unset, .unset]) at_230 rfl rfl ?_
        refine Go.bipush 7 at_232 rfl ?_
        -- at pc 234: pc 234: newarray .newarray .char stack [(.int (7 : Int32))]
        refine Go.newP (I' := IW Z EL s₀ h0.size []) (hI := wE) .char (wd_4 hw) rfl at_234 (by decide) 7 (by decide) (by decide) (by decide) (by decide) fun hp202 b3 k_b3 e_b3 X202 V_b3 => ?_
        have K202 : Keep hp201 hp202 [] := (Keep.refl _ _).ext X202
        have g_b3 : n0 ≤ b3 := e_b3 ▸ hz
        have l_b3 : h0.size ≤ b3 := e_b3 ▸ hlo
        have ne_x1_b3 : x1 ≠ b3 := Nat.ne_of_lt (e_b3 ▸ E_x1.lt)
        have ne_t1_b3 : t1 ≠ b3 := Nat.ne_of_lt (e_b3 ▸ B1.lt2)
        have ne_y1_b3 : y1 ≠ b3 := Nat.ne_of_lt (e_b3 ▸ E_y1.lt)
        have ne_w1_b3 : w1 ≠ b3 := Nat.ne_of_lt (e_b3 ▸ D1.lt2)
        replace O := O.keep K202 (all0)
        replace E_x1 := E_x1.keep K202
        replace B1 := B1.keep K202 nin0 nin0
        replace E_y1 := E_y1.keep K202
        replace D1 := D1.keep K202 nin0 nin0
        replace V_b3 : Arv Z hp202 b3 k_b3 .char (7 : Int32) [(.int (0 : Int32)), (.int (0 : Int32)), (.int (0 : Int32)), (.int (0 : Int32)), (.int (0 : Int32)), (.int (0 : Int32)), (.int (0 : Int32))] (.int (0 : Int32)) := V_b3.pad (pad_rep [] (.int (0 : Int32)) 7)
        replace hz : n0 ≤ hp202.size := Nat.le_trans hz K202.1
        replace hlo : h0.size ≤ hp202.size := Nat.le_trans hlo K202.1
        refine Go.dup at_236 rfl ?_
        refine Go.iconst 0 at_237 rfl ?_
        refine Go.iload at_238 rfl ?_
        refine Go.castore (I' := IW Z EL s₀ h0.size []) (hI := wI (Sb.arv V_b3 (by decide))) V_b3 ⟨by decide, by decide⟩ g_b3 0 rfl (Nat.le_of_ble_eq_true rfl) at_240 fun hp203 K203 V_b3_n => ?_
        replace V_b3 : Arv Z hp203 b3 k_b3 .char (7 : Int32) [(.int (nar .char ca)), (.int (0 : Int32)), (.int (0 : Int32)), (.int (0 : Int32)), (.int (0 : Int32)), (.int (0 : Int32)), (.int (0 : Int32))] (.int (0 : Int32)) := V_b3_n
        replace O := O.keep K203 (allS g_b3 (all0))
        replace E_x1 := E_x1.keep K203
        replace B1 := B1.keep K203 (ninS ne_x1_b3 nin0) (ninS ne_t1_b3 nin0)
        replace E_y1 := E_y1.keep K203
        replace D1 := D1.keep K203 (ninS ne_y1_b3 nin0) (ninS ne_w1_b3 nin0)
        replace hz : n0 ≤ hp203.size := Nat.le_trans hz K203.1
        replace hlo : h0.size ≤ hp203.size := Nat.le_trans hlo K203.1
        rw [(own_narc o_ca)] at V_b3
        refine Go.dup at_241 rfl ?_
        refine Go.iconst 1 at_242 rfl ?_
        refine Go.iload at_243 rfl ?_
        refine Go.castore (I' := IW Z EL s₀ h0.size []) (hI := wI (Sb.arv V_b3 (by decide))) V_b3 ⟨by decide, by decide⟩ g_b3 1 rfl (Nat.le_of_ble_eq_true rfl) at_245 fun hp204 K204 V_b3_n => ?_
        replace V_b3 : Arv Z hp204 b3 k_b3 .char (7 : Int32) [(.int ca), (.int (nar .char cb)), (.int (0 : Int32)), (.int (0 : Int32)), (.int (0 : Int32)), (.int (0 : Int32)), (.int (0 : Int32))] (.int (0 : Int32)) := V_b3_n
        replace O := O.keep K204 (allS g_b3 (all0))
        replace E_x1 := E_x1.keep K204
        replace B1 := B1.keep K204 (ninS ne_x1_b3 nin0) (ninS ne_t1_b3 nin0)
        replace E_y1 := E_y1.keep K204
        replace D1 := D1.keep K204 (ninS ne_y1_b3 nin0) (ninS ne_w1_b3 nin0)
        replace hz : n0 ≤ hp204.size := Nat.le_trans hz K204.1
        replace hlo : h0.size ≤ hp204.size := Nat.le_trans hlo K204.1
        rw [(own_narc o_cb)] at V_b3
        refine Go.dup at_246 rfl ?_
        refine Go.iconst 2 at_247 rfl ?_
        refine Go.bipush 32 at_248 rfl ?_
        refine Go.castore (I' := IW Z EL s₀ h0.size []) (hI := wI (Sb.arv V_b3 (by decide))) V_b3 ⟨by decide, by decide⟩ g_b3 2 rfl (Nat.le_of_ble_eq_true rfl) at_250 fun hp205 K205 V_b3_n => ?_
        replace V_b3 : Arv Z hp205 b3 k_b3 .char (7 : Int32) [(.int ca), (.int cb), (.int (nar .char (32 : Int32))), (.int (0 : Int32)), (.int (0 : Int32)), (.int (0 : Int32)), (.int (0 : Int32))] (.int (0 : Int32)) := V_b3_n
        replace O := O.keep K205 (allS g_b3 (all0))
        replace E_x1 := E_x1.keep K205
        replace B1 := B1.keep K205 (ninS ne_x1_b3 nin0) (ninS ne_t1_b3 nin0)
        replace E_y1 := E_y1.keep K205
        replace D1 := D1.keep K205 (ninS ne_y1_b3 nin0) (ninS ne_w1_b3 nin0)
        replace hz : n0 ≤ hp205.size := Nat.le_trans hz K205.1
        replace hlo : h0.size ≤ hp205.size := Nat.le_trans hlo K205.1
        rw [(show nar .char (32 : Int32) = 32 from rfl)] at V_b3
        refine Go.dup at_251 rfl ?_
        refine Go.iconst 3 at_252 rfl ?_
        refine Go.bipush 34 at_253 rfl ?_
        refine Go.castore (I' := IW Z EL s₀ h0.size []) (hI := wI (Sb.arv V_b3 (by decide))) V_b3 ⟨by decide, by decide⟩ g_b3 3 rfl (Nat.le_of_ble_eq_true rfl) at_255 fun hp206 K206 V_b3_n => ?_
        replace V_b3 : Arv Z hp206 b3 k_b3 .char (7 : Int32) [(.int ca), (.int cb), (.int (32 : Int32)), (.int (nar .char (34 : Int32))), (.int (0 : Int32)), (.int (0 : Int32)), (.int (0 : Int32))] (.int (0 : Int32)) := V_b3_n
        replace O := O.keep K206 (allS g_b3 (all0))
        replace E_x1 := E_x1.keep K206
        replace B1 := B1.keep K206 (ninS ne_x1_b3 nin0) (ninS ne_t1_b3 nin0)
        replace E_y1 := E_y1.keep K206
        replace D1 := D1.keep K206 (ninS ne_y1_b3 nin0) (ninS ne_w1_b3 nin0)
        replace hz : n0 ≤ hp206.size := Nat.le_trans hz K206.1
        replace hlo : h0.size ≤ hp206.size := Nat.le_trans hlo K206.1
        rw [(show nar .char (34 : Int32) = 34 from rfl)] at V_b3
        refine Go.dup at_256 rfl ?_
        refine Go.iconst 4 at_257 rfl ?_
        refine Go.iload at_258 rfl ?_
        refine Go.castore (I' := IW Z EL s₀ h0.size []) (hI := wI (Sb.arv V_b3 (by decide))) V_b3 ⟨by decide, by decide⟩ g_b3 4 rfl (Nat.le_of_ble_eq_true rfl) at_260 fun hp207 K207 V_b3_n => ?_
        replace V_b3 : Arv Z hp207 b3 k_b3 .char (7 : Int32) [(.int ca), (.int cb), (.int (32 : Int32)), (.int (34 : Int32)), (.int (nar .char cc)), (.int (0 : Int32)), (.int (0 : Int32))] (.int (0 : Int32)) := V_b3_n
        replace O := O.keep K207 (allS g_b3 (all0))
        replace E_x1 := E_x1.keep K207
        replace B1 := B1.keep K207 (ninS ne_x1_b3 nin0) (ninS ne_t1_b3 nin0)
        replace E_y1 := E_y1.keep K207
        replace D1 := D1.keep K207 (ninS ne_y1_b3 nin0) (ninS ne_w1_b3 nin0)
        replace hz : n0 ≤ hp207.size := Nat.le_trans hz K207.1
        replace hlo : h0.size ≤ hp207.size := Nat.le_trans hlo K207.1
        rw [(own_narc o_cc)] at V_b3
        refine Go.dup at_261 rfl ?_
        refine Go.iconst 5 at_262 rfl ?_
        refine Go.iload at_263 rfl ?_
        refine Go.castore (I' := IW Z EL s₀ h0.size []) (hI := wI (Sb.arv V_b3 (by decide))) V_b3 ⟨by decide, by decide⟩ g_b3 5 rfl (Nat.le_of_ble_eq_true rfl) at_265 fun hp208 K208 V_b3_n => ?_
        replace V_b3 : Arv Z hp208 b3 k_b3 .char (7 : Int32) [(.int ca), (.int cb), (.int (32 : Int32)), (.int (34 : Int32)), (.int cc), (.int (nar .char cd)), (.int (0 : Int32))] (.int (0 : Int32)) := V_b3_n
        replace O := O.keep K208 (allS g_b3 (all0))
        replace E_x1 := E_x1.keep K208
        replace B1 := B1.keep K208 (ninS ne_x1_b3 nin0) (ninS ne_t1_b3 nin0)
        replace E_y1 := E_y1.keep K208
        replace D1 := D1.keep K208 (ninS ne_y1_b3 nin0) (ninS ne_w1_b3 nin0)
        replace hz : n0 ≤ hp208.size := Nat.le_trans hz K208.1
        replace hlo : h0.size ≤ hp208.size := Nat.le_trans hlo K208.1
        rw [(own_narc o_cd)] at V_b3
        refine Go.dup at_266 rfl ?_
        refine Go.bipush 6 at_267 rfl ?_
        refine Go.bipush 34 at_269 rfl ?_
        refine Go.castore (I' := IW Z EL s₀ h0.size []) (hI := wI (Sb.arv V_b3 (by decide))) V_b3 ⟨by decide, by decide⟩ g_b3 6 rfl (Nat.le_of_ble_eq_true rfl) at_271 fun hp209 K209 V_b3_n => ?_
        replace V_b3 : Arv Z hp209 b3 k_b3 .char (7 : Int32) [(.int ca), (.int cb), (.int (32 : Int32)), (.int (34 : Int32)), (.int cc), (.int cd), (.int (nar .char (34 : Int32)))] (.int (0 : Int32)) := V_b3_n
        replace O := O.keep K209 (allS g_b3 (all0))
        replace E_x1 := E_x1.keep K209
        replace B1 := B1.keep K209 (ninS ne_x1_b3 nin0) (ninS ne_t1_b3 nin0)
        replace E_y1 := E_y1.keep K209
        replace D1 := D1.keep K209 (ninS ne_y1_b3 nin0) (ninS ne_w1_b3 nin0)
        replace hz : n0 ≤ hp209.size := Nat.le_trans hz K209.1
        replace hlo : h0.size ≤ hp209.size := Nat.le_trans hlo K209.1
        rw [(show nar .char (34 : Int32) = 34 from rfl)] at V_b3
        refine Go.astore (Ls' := #[.val (.int p0), .val (.int p1), .val (.int p2), .val (.int p3), .val (.int p4), .val (.int ca), .val (.int cb), .val (.int cc), .val (.int cd), .val (.ref x1), .val (.int m), .val (.ref y1), .val (.ref b3), .unset, .unset]) at_272 rfl rfl ?_
        exact (j274 _ _ y1 w1 b3 kw1 k_b3 [cc, cd] [ca, cb, 32, 34, cc, cd, 34] rfl hm0 (Nat.le_of_ble_eq_true rfl) (Chr.cons o_cc (Chr.cons o_cd Chr.nil)) hlo hz O E_x1 B1 D1 V_b3).more (by decide) (by decide)
set_option maxRecDepth 65536 in
set_option maxHeartbeats 40000000 in
theorem comes_1 {Post : Tables → Env → Array Value → State → Outcome → State → Prop} (hpost : ∀ tb e args s v u, (limb_1_1.after args s (.returned v) u = true ∧ limb_1_2.after args s (.returned v) u = true ∧ True) → ReturnedEndW s (.returned v) u (Jvm.fieldLocs frame_1_writes args s ++ Jvm.arrayLocs frame_1_arrays args s ++ Jvm.staticLocs frame_1_statics s) 56 5504 → Post tb e args s (.returned v) u) :
    ArmFor flags0 classFile x code maxLocals ret World_1 tables_1 room_1 Calls_1 rest_1 Pre_1 Post := by
  intro l hfl _ _ p e ha hc hk s m args below hf hA hF happ hP
  obtain ⟨hcalls, hrest, hpre⟩ := hP
  obtain ⟨-, -, -, hnamed, -, -, -, hat⟩ := (Spec.applies_iff hf).mp happ
  obtain ⟨hg, hn⟩ := and_e (Cond.before_iff.mp (show (Jvm.Cond.and given_1 narrow_1).before args s = true from hpre))
  obtain ⟨gg1, gg2⟩ := and_e hg
  obtain ⟨gg3, gg4⟩ := and_e gg2
  obtain ⟨gg5, gg6⟩ := and_e gg4
  obtain ⟨gg7, gg8⟩ := and_e gg6
  obtain ⟨gg9, gg10⟩ := and_e gg8
  obtain ⟨w0, w1, w2, w3, w4, rfl⟩ : ∃ w0 w1 w2 w3 w4 : Value, args = #[w0, w1, w2, w3, w4] := by
    have hs : args.size = 5 := by simpa [Cond.value, given_1] using gg1
    obtain ⟨L⟩ := args
    match L, hs with
    | [w0, w1, w2, w3, w4], _ => exact ⟨w0, w1, w2, w3, w4, rfl⟩
  have hw := fun d (hd : d ∈ tables_1) => atoms_spec (ws := Jvm.Cond.code x code maxLocals ret :: tables_1) hat d (List.mem_cons_of_mem _ hd)
  have hfit : Fit s := fun {y c} hc i hi => by
    obtain ⟨ha, rfl⟩ := Array.getElem?_eq_some_iff.mp hc
    have q := List.all_eq_true.mp ((Array.all_eq_true_iff_forall_mem.mp hF) _ (Array.getElem_mem ha)) i (List.mem_range.mpr hi)
    simpa [Array.getElem?_eq_getElem hi] using q
  obtain ⟨hsets, hown0⟩ := atoms_of _ (rest_1_c_eq ▸ (show rest_1_c.before _ s = true from hrest))
  have hr0 := Cond.before_iff.mp hown0
  have hcw : Jvm.Lit.compactW.before #[w0, w1, w2, w3, w4] s = true := hsets _ (List.mem_of_getElem? (i := 2) rfl)
  have hCH : CHv s EL s.vm s.heap := CHv.start (ewEL hw) (fun q hq => hcalls.1 q hq) hcw (wd_20 hw) (wd_2 hw)
  obtain ⟨i0, ei0⟩ := is_v gg3
  obtain rfl : w0 = (.int i0) := Option.some.inj ei0
  obtain ⟨i1, ei1⟩ := is_v gg5
  obtain rfl : w1 = (.int i1) := Option.some.inj ei1
  obtain ⟨i2, ei2⟩ := is_v gg7
  obtain rfl : w2 = (.int i2) := Option.some.inj ei2
  obtain ⟨i3, ei3⟩ := is_v gg9
  obtain rfl : w3 = (.int i3) := Option.some.inj ei3
  obtain ⟨i4, ei4⟩ := is_v gg10
  obtain rfl : w4 = (.int i4) := Option.some.inj ei4
  have ev := is_v (Cond.before_iff.mp (hsets _ (List.mem_of_getElem? (i := 1) rfl)))
  obtain ⟨z, ev⟩ := ev
  have S0 := Sta.start ev (Or.inl (hsets _ (List.mem_of_getElem? (i := 0) rfl)))
  have nz := not_v (Cond.before_iff.mp (hsets _ (List.mem_of_getElem? (i := 2) rfl)))
  have nz' : ¬ z = 0 := gotF (Cond.eq_ints ev (Term.int_eval _)) nz
  obtain ⟨vf, evf, hvf⟩ := isR_v (Cond.before_iff.mp (hsets _ (List.mem_of_getElem? (i := 8) rfl)))
  have S1 := Sta.start evf (Or.inl (hsets _ (List.mem_of_getElem? (i := 7) rfl)))
  have S2 := Sta.start (eqv_i (Term.int_eval _) (Cond.before_iff.mp (hsets _ (List.mem_of_getElem? (i := 23) rfl)))) (Or.inl (hsets _ (List.mem_of_getElem? (i := 22) rfl)))
  have S3 := Sta.start (eqv_i (Term.int_eval _) (Cond.before_iff.mp (hsets _ (List.mem_of_getElem? (i := 26) rfl)))) (Or.inl (hsets _ (List.mem_of_getElem? (i := 25) rfl)))
  have S4 := Sta.start (eqv_i (Term.int_eval _) (Cond.before_iff.mp (hsets _ (List.mem_of_getElem? (i := 29) rfl)))) (Or.inl (hsets _ (List.mem_of_getElem? (i := 28) rfl)))
  obtain ⟨dg, kd, vd, edg, Vdg, hd0⟩ := dig_start hfit (hsets _ (List.mem_of_getElem? (i := 12) rfl)) (hsets _ (List.mem_of_getElem? (i := 13) rfl)) (hsets _ (List.mem_of_getElem? (i := 14) rfl)) (wd_20 hw)
  have S5 := Sta.start edg (Or.inl (hsets _ (List.mem_of_getElem? (i := 11) rfl)))
  obtain ⟨n, o, h1, h2, h3, _, L, rfl, ⟨N, rfl⟩, -, hq⟩ := (ct_law l s _ hw s.heap.size i0 i1 i2 i3 i4 s.heap (Nat.le_refl _) (Old.start s) z S0 nz' S2 S3 S4 vf hvf S1 dg kd vd S5 Vdg hd0) p e ha hc hk s m _ below hf ((Spec.applies_iff_loose hf).mp happ).1 ⟨rfl, State.Warmed39.refl s, rfl, hCH, all0⟩ trivial
  exact ⟨n, _, h1, h2, h3, hpost _ _ _ _ _ _ ⟨Cond.after_iff.mpr rfl, Cond.after_iff.mpr (eq_i res_at (Term.int_eval (1)) rfl), trivial⟩ ⟨hq.1, hq.2.1, hq.2.2.1, (hq.2.2.2.sift fun y hy => Or.inr (N y hy)).mono (by decide) (by decide)⟩⟩
theorem main_1_1 : Claimed_1_1 := comes_1 fun _ _ _ _ _ _ h hF => ⟨h.1, hF⟩
theorem main_1_2 : Claimed_1_2 := comes_1 fun _ _ _ _ _ _ h hF => ⟨h.2.1, hF⟩
end Jvm.Pilot.@@N@@
namespace Jvm.Pilot.@@N@@
open Jvm Jvm.ClassFile Sem Op Lib Jvm.Free Jvm.Stand Jvm.Pilot.@@N@@.Jvm.D
/-! MADE BY PROGRAM (witnessworld.py) out of the Statement's table words and the real class files: 29 classes; the members and pool entries that the words name. The judged class is class 1, her method 1. -/
namespace start1
open Jvm.ClassFile
def u (s : String) : CpInfo := .utf8 (stringToUtf16 s)
/-- a pool by its gaps: so many unusable entries, then the entry; so many at the end -/
def gap : Nat → List CpInfo → List CpInfo
  | 0, r => r
  | n + 1, r => .unusable :: gap n r
def poolList (es : List (Nat × CpInfo)) (last : Nat) : List CpInfo := es.foldr (fun e r => gap e.1 (e.2 :: r)) (gap last [])
def pool (es : List (Nat × CpInfo)) (last : Nat) : Array CpInfo := ⟨poolList es last⟩
def fileOf (pool : Array CpInfo) (this : Nat) (attrs : Array Attribute := #[]) (ms : Array MethodInfo := #[]) (fl : Nat := 33) (sup : Nat := 0) (ifs : Array Nat := #[]) (fds : Array FieldInfo := #[]) : ClassFile where
  minorVersion := 0
  majorVersion := 65
  constantPool := pool
  accessFlags := fl
  thisClass := this
  superClass := sup
  interfaces := ifs
  fields := fds
  methods := ms
  attributes := attrs
def plain (name : String) (sup : Option ClassId) : Class where
  name := name
  kind := .ordinary
  loader := none
  accessFlags := 33
  super := sup
  interfaces := #[]
  cf := none
  fields := #[]
  methods := #[]
  instanceTypes := #[]
  staticTypes := #[]
  resolved := #[]
  callSites := []
  init := .initialized
  statics := none
  mirror := none

def pool0 : Array CpInfo := pool [(5, u "<init>"), (0, u "()V"), (1, .class_ 10), (1, u "java/lang/Object")] 113

def k0c0 : Code := { maxStack := 0, maxLocals := 1, code := object_method_1_code, exceptionTable := #[], attributes := #[] }
def k0m0 : Method := { name := "<init>", desc := "()V", sig := { parameters := [], returnType := none }, accessFlags := 1, code := some k0c0 }
/-- java/lang/Object -/
def k0 : Class := { plain "java/lang/Object" none with
  accessFlags := 33
  interfaces := #[]
  cf := some (fileOf pool0 8 #[] #[{ accessFlags := 1, nameIndex := 5, descriptorIndex := 6, attributes := #[] }] 33 0 #[] #[])
  fields := #[]
  methods := #[k0m0]
  instanceTypes := #[]
  staticTypes := #[]
  resolved := Array.replicate 124 none
  statics := none }

def pool1 : Array CpInfo := pool [(2, .class_ 4), (1, u "java/lang/Object"), (0, u "<init>"), (0, u "()V"), (0, .integer 65535), (0, .class_ 9), (0, u "java/lang/String"), (0, .methodref 8 11), (0, .nameAndType 5 12), (0, u "([C)V"), (0, .methodref 14 15), (0, .class_ 16), (0, .nameAndType 17 18), (0, u "com/example/vestry/vestry/ObjectName"), (0, u "of"), (0, u "(Ljava/lang/String;Ljava/lang/String;)Lcom/example/vestry/vestry/ObjectName;"), (0, .methodref 14 20), (0, .nameAndType 21 22), (0, u "within"), (0, u "()Lcom/example/vestry/vestry/ObjectName;"), (0, .methodref 14 24), (0, .nameAndType 25 26), (0, u "kind"), (0, u "()Ljava/lang/String;"), (0, .methodref 8 28), (0, .nameAndType 29 30), (0, u "equals"), (0, u "(Ljava/lang/Object;)Z"), (0, .methodref 14 32), (0, .nameAndType 33 26), (0, u "id"), (0, .methodref 14 35), (0, .nameAndType 36 37), (0, u "index"), (0, u "()I"), (0, .methodref 14 39), (0, .nameAndType 40 26), (0, u "text"), (0, .class_ 42), (0, u "com/example/vestry/vestry/ObjectNameOfPinLaw"), (2, u "law"), (0, u "(IIIII)Z")] 5

def k1m0 : Method := { name := "<init>", desc := "()V", sig := { parameters := [], returnType := none }, accessFlags := 1, code := none }
def k1c1 : Code := { maxStack := 6, maxLocals := 15, code := code, exceptionTable := #[], attributes := #[] }
def k1m1 : Method := { name := "law", desc := "(IIIII)Z", sig := { parameters := [.int, .int, .int, .int, .int], returnType := some .boolean }, accessFlags := 9, code := some k1c1 }
/-- com/example/vestry/vestry/ObjectNameOfPinLaw -/
def k1 : Class := { plain "com/example/vestry/vestry/ObjectNameOfPinLaw" (some 0) with
  accessFlags := 49
  interfaces := #[]
  cf := some (fileOf pool1 41 #[] #[{ accessFlags := 1, nameIndex := 5, descriptorIndex := 6, attributes := #[] }, { accessFlags := 9, nameIndex := 45, descriptorIndex := 46, attributes := #[] }] 49 2 #[] #[])
  fields := #[]
  methods := #[k1m0, k1m1]
  instanceTypes := #[]
  staticTypes := #[]
  resolved := Array.replicate 52 none
  statics := none }

def pool2 : Array CpInfo := pool [(1, .class_ 2), (0, u "java/io/Serializable"), (0, .class_ 4), (0, u "java/lang/Object")] 2

/-- java/io/Serializable -/
def k2 : Class := { plain "java/io/Serializable" (some 0) with
  accessFlags := 1537
  interfaces := #[]
  cf := some (fileOf pool2 1 #[] #[] 1537 3 #[] #[])
  fields := #[]
  methods := #[]
  instanceTypes := #[]
  staticTypes := #[]
  resolved := Array.replicate 7 none
  statics := none }

def pool3 : Array CpInfo := pool [(1, .class_ 2), (0, u "java/lang/Comparable"), (0, .class_ 4), (0, u "java/lang/Object")] 7

/-- java/lang/Comparable -/
def k3 : Class := { plain "java/lang/Comparable" (some 0) with
  accessFlags := 1537
  interfaces := #[]
  cf := some (fileOf pool3 1 #[] #[] 1537 3 #[] #[])
  fields := #[]
  methods := #[]
  instanceTypes := #[]
  staticTypes := #[]
  resolved := Array.replicate 12 none
  statics := none }

def pool4 : Array CpInfo := pool [(2, .class_ 4), (1, u "java/lang/CharSequence"), (42, .class_ 48), (0, u "java/lang/CharSequence$1CodePointIterator"), (10, .class_ 60), (0, u "java/lang/CharSequence$1CharIterator"), (5, .class_ 67), (0, u "java/lang/Object")] 63

/-- java/lang/CharSequence -/
def k4 : Class := { plain "java/lang/CharSequence" (some 0) with
  accessFlags := 1537
  interfaces := #[]
  cf := some (fileOf pool4 2 #[.nestMembers #[47, 59]] #[] 1537 66 #[] #[])
  fields := #[]
  methods := #[]
  instanceTypes := #[]
  staticTypes := #[]
  resolved := Array.replicate 131 none
  statics := none }

def pool5 : Array CpInfo := pool [(1, .class_ 2), (0, u "java/lang/constant/Constable"), (0, .class_ 4), (0, u "java/lang/Object")] 6

/-- java/lang/constant/Constable -/
def k5 : Class := { plain "java/lang/constant/Constable" (some 0) with
  accessFlags := 1537
  interfaces := #[]
  cf := some (fileOf pool5 1 #[] #[] 1537 3 #[] #[])
  fields := #[]
  methods := #[]
  instanceTypes := #[]
  staticTypes := #[]
  resolved := Array.replicate 11 none
  statics := none }

def pool6 : Array CpInfo := pool [(1, .class_ 2), (0, u "java/lang/constant/ConstantDesc"), (0, .class_ 4), (0, u "java/lang/Object")] 32

/-- java/lang/constant/ConstantDesc -/
def k6 : Class := { plain "java/lang/constant/ConstantDesc" (some 0) with
  accessFlags := 1537
  interfaces := #[]
  cf := some (fileOf pool6 1 #[] #[] 1537 3 #[] #[])
  fields := #[]
  methods := #[]
  instanceTypes := #[]
  staticTypes := #[]
  resolved := Array.replicate 37 none
  statics := none }

def pool7 : Array CpInfo := pool [(1, .methodref 2 3), (0, .class_ 4), (0, .nameAndType 5 6), (0, u "java/lang/Object"), (0, u "<init>"), (0, u "()V"), (0, .string 8), (0, u ""), (0, .fieldref 10 11), (0, .class_ 12), (0, .nameAndType 13 14), (0, u "java/lang/String"), (0, u "value"), (0, u "[B"), (0, .fieldref 10 16), (0, .nameAndType 17 18), (0, u "coder"), (0, u "B"), (2, u "hash"), (0, u "I"), (2, u "hashIsZero"), (0, u "Z"), (0, .methodref 10 28), (0, .nameAndType 5 29), (0, u "([CIILjava/lang/Void;)V"), (6, u "checkBoundsOffCount"), (0, u "(III)I"), (0, .fieldref 10 39), (0, .nameAndType 40 26), (0, u "COMPACT_STRINGS"), (1, .class_ 44), (1, u "java/lang/StringUTF16"), (0, u "compress"), (1, .methodref 42 48), (0, .nameAndType 49 50), (0, u "coderFromArrayLen"), (0, u "([BI)B"), (3, .methodref 55 56), (0, .class_ 57), (0, .nameAndType 58 59), (0, u "java/util/Arrays"), (0, u "copyOfRange"), (0, u "([BII)[B"), (46, .methodref 107 108), (0, .class_ 109), (0, .nameAndType 110 111), (0, u "java/lang/StringLatin1"), (0, u "inflate"), (0, u "([BI[BII)V"), (30, u "()Z"), (34, .methodref 42 178), (0, .nameAndType 45 179), (0, u "([CII)[B"), (13, .class_ 195), (1, u "java/lang/System"), (16, .methodref 193 213), (0, .nameAndType 214 215), (0, u "arraycopy"), (0, u "(Ljava/lang/Object;ILjava/lang/Object;II)V"), (118, u "()I"), (0, .methodref 10 336), (0, .nameAndType 17 337), (0, u "()B"), (2, u "()[B"), (148, .methodref 10 490), (0, .nameAndType 5 491), (0, u "(Ljava/lang/AbstractStringBuilder;Ljava/lang/Void;)V"), (1, .nameAndType 494 142), (0, u "isLatin1"), (11, .nameAndType 507 334), (0, u "length"), (5, u "checkFromToIndex"), (9, u "checkBoundsBeginEnd"), (0, u "(III)V"), (7, u "getBytes"), (8, .methodref 107 542), (0, .nameAndType 543 544), (0, u "equals"), (0, u "([B[B)Z"), (4, .methodref 550 506), (0, .class_ 551), (0, u "java/lang/AbstractStringBuilder"), (0, .methodref 550 553), (0, .nameAndType 554 340), (0, u "getValue"), (18, u "(Ljava/lang/Object;)Z"), (1, .class_ 576), (0, u "java/lang/CharSequence"), (22, u "CASE_INSENSITIVE_ORDER"), (0, u "Ljava/util/Comparator;"), (220, u "([BIB)V"), (188, u "([C)V"), (36, .methodref 550 493), (0, .fieldref 550 1049), (0, .nameAndType 1050 26), (0, u "maybeLatin1"), (2, .fieldref 1054 1055), (0, .class_ 1056), (0, .nameAndType 1057 1058), (0, u "jdk/internal/util/Preconditions"), (0, u "SIOOBE_FORMATTER"), (0, u "Ljava/util/function/BiFunction;"), (3, .methodref 1054 1063), (0, .nameAndType 513 1064), (0, u "(IIILjava/util/function/BiFunction;)I"), (0, .methodref 1054 1066), (0, .nameAndType 1067 1064), (0, u "checkFromIndexSize"), (33, u "serialPersistentFields"), (0, u "[Ljava/io/ObjectStreamField;"), (0, .class_ 1104), (0, u "java/lang/String$CaseInsensitiveComparator"), (1, .class_ 1107), (0, u "java/io/Serializable"), (0, .class_ 1109), (0, u "java/lang/Comparable"), (0, .class_ 1111), (0, u "java/lang/constant/Constable"), (0, .class_ 1113), (0, u "java/lang/constant/ConstantDesc"), (2, u "serialVersionUID"), (0, u "J"), (3, u "REPL"), (0, u "C"), (2, u "LATIN1"), (1, u "UTF16"), (105, u "(Ljava/lang/StringBuilder;)V")] 217

def k7m0 : Method := { name := "<init>", desc := "()V", sig := { parameters := [], returnType := none }, accessFlags := 1, code := none }
def k7c1 : Code := { maxStack := 5, maxLocals := 2, code := jdk_42_method_3_code, exceptionTable := #[], attributes := #[] }
def k7m1 : Method := { name := "<init>", desc := "([C)V", sig := { parameters := [(.array .char)], returnType := none }, accessFlags := 1, code := some k7c1 }
def k7c2 : Code := { maxStack := 3, maxLocals := 2, code := jdk_42_method_53_code, exceptionTable := #[], attributes := #[] }
def k7m2 : Method := { name := "<init>", desc := "(Ljava/lang/StringBuilder;)V", sig := { parameters := [(.object "java/lang/StringBuilder")], returnType := none }, accessFlags := 1, code := some k7c2 }
def k7c3 : Code := { maxStack := 2, maxLocals := 1, code := jdk_42_method_54_code, exceptionTable := #[], attributes := #[] }
def k7m3 : Method := { name := "length", desc := "()I", sig := { parameters := [], returnType := some .int }, accessFlags := 1, code := some k7c3 }
def k7c4 : Code := { maxStack := 2, maxLocals := 3, code := jdk_42_method_66_code, exceptionTable := #[], attributes := #[] }
def k7m4 : Method := { name := "equals", desc := "(Ljava/lang/Object;)Z", sig := { parameters := [(.object "java/lang/Object")], returnType := some .boolean }, accessFlags := 1, code := some k7c4 }
def k7c5 : Code := { maxStack := 5, maxLocals := 4, code := jdk_42_method_147_code, exceptionTable := #[], attributes := #[] }
def k7m5 : Method := { name := "getBytes", desc := "([BIB)V", sig := { parameters := [(.array .byte), .int, .byte], returnType := none }, accessFlags := 0, code := some k7c5 }
def k7c6 : Code := { maxStack := 4, maxLocals := 6, code := jdk_42_method_149_code, exceptionTable := #[], attributes := #[] }
def k7m6 : Method := { name := "<init>", desc := "([CIILjava/lang/Void;)V", sig := { parameters := [(.array .char), .int, .int, (.object "java/lang/Void")], returnType := none }, accessFlags := 2, code := some k7c6 }
def k7c7 : Code := { maxStack := 5, maxLocals := 5, code := jdk_42_method_150_code, exceptionTable := #[], attributes := #[] }
def k7m7 : Method := { name := "<init>", desc := "(Ljava/lang/AbstractStringBuilder;Ljava/lang/Void;)V", sig := { parameters := [(.object "java/lang/AbstractStringBuilder"), (.object "java/lang/Void")], returnType := none }, accessFlags := 0, code := some k7c7 }
def k7c8 : Code := { maxStack := 1, maxLocals := 1, code := jdk_42_method_152_code, exceptionTable := #[], attributes := #[] }
def k7m8 : Method := { name := "coder", desc := "()B", sig := { parameters := [], returnType := some .byte }, accessFlags := 0, code := some k7c8 }
def k7c9 : Code := { maxStack := 4, maxLocals := 3, code := jdk_42_method_157_code, exceptionTable := #[], attributes := #[] }
def k7m9 : Method := { name := "checkBoundsOffCount", desc := "(III)I", sig := { parameters := [.int, .int, .int], returnType := some .int }, accessFlags := 8, code := some k7c9 }
def k7c10 : Code := { maxStack := 4, maxLocals := 3, code := jdk_42_method_158_code, exceptionTable := #[], attributes := #[] }
def k7m10 : Method := { name := "checkBoundsBeginEnd", desc := "(III)V", sig := { parameters := [.int, .int, .int], returnType := none }, accessFlags := 8, code := some k7c10 }
/-- java/lang/String -/
def k7 : Class := { plain "java/lang/String" (some 0) with
  accessFlags := 49
  interfaces := #[2, 3, 4, 5, 6]
  cf := some (fileOf pool7 10 #[.nestMembers #[1103]] #[{ accessFlags := 1, nameIndex := 5, descriptorIndex := 6, attributes := #[] }, { accessFlags := 1, nameIndex := 5, descriptorIndex := 1010, attributes := #[] }, { accessFlags := 1, nameIndex := 5, descriptorIndex := 1233, attributes := #[] }, { accessFlags := 1, nameIndex := 507, descriptorIndex := 334, attributes := #[] }, { accessFlags := 1, nameIndex := 543, descriptorIndex := 573, attributes := #[] }, { accessFlags := 0, nameIndex := 532, descriptorIndex := 821, attributes := #[] }, { accessFlags := 2, nameIndex := 5, descriptorIndex := 29, attributes := #[] }, { accessFlags := 0, nameIndex := 5, descriptorIndex := 491, attributes := #[] }, { accessFlags := 0, nameIndex := 17, descriptorIndex := 337, attributes := #[] }, { accessFlags := 8, nameIndex := 36, descriptorIndex := 37, attributes := #[] }, { accessFlags := 8, nameIndex := 523, descriptorIndex := 524, attributes := #[] }] 49 2 #[1106, 1108, 575, 1110, 1112] #[{ accessFlags := 18, nameIndex := 13, descriptorIndex := 14, attributes := #[] }, { accessFlags := 18, nameIndex := 17, descriptorIndex := 18, attributes := #[] }, { accessFlags := 2, nameIndex := 21, descriptorIndex := 22, attributes := #[] }, { accessFlags := 2, nameIndex := 25, descriptorIndex := 26, attributes := #[] }, { accessFlags := 26, nameIndex := 1116, descriptorIndex := 1117, attributes := #[] }, { accessFlags := 24, nameIndex := 40, descriptorIndex := 26, attributes := #[] }, { accessFlags := 26, nameIndex := 1101, descriptorIndex := 1102, attributes := #[] }, { accessFlags := 26, nameIndex := 1121, descriptorIndex := 1122, attributes := #[] }, { accessFlags := 25, nameIndex := 599, descriptorIndex := 600, attributes := #[] }, { accessFlags := 24, nameIndex := 1125, descriptorIndex := 18, attributes := #[] }, { accessFlags := 24, nameIndex := 1127, descriptorIndex := 18, attributes := #[] }])
  fields := #[{ name := "value", type := (.array .byte), accessFlags := 18, slot := 0, constantValue := 0 }, { name := "coder", type := .byte, accessFlags := 18, slot := 1, constantValue := 0 }, { name := "hash", type := .int, accessFlags := 2, slot := 2, constantValue := 0 }, { name := "hashIsZero", type := .boolean, accessFlags := 2, slot := 3, constantValue := 0 }, { name := "serialVersionUID", type := .long, accessFlags := 26, slot := 0, constantValue := 0 }, { name := "COMPACT_STRINGS", type := .boolean, accessFlags := 24, slot := 1, constantValue := 0 }, { name := "serialPersistentFields", type := (.array (.object "java/io/ObjectStreamField")), accessFlags := 26, slot := 2, constantValue := 0 }, { name := "REPL", type := .char, accessFlags := 26, slot := 3, constantValue := 0 }, { name := "CASE_INSENSITIVE_ORDER", type := (.object "java/util/Comparator"), accessFlags := 25, slot := 4, constantValue := 0 }, { name := "LATIN1", type := .byte, accessFlags := 24, slot := 5, constantValue := 0 }, { name := "UTF16", type := .byte, accessFlags := 24, slot := 6, constantValue := 0 }]
  methods := #[k7m0, k7m1, k7m2, k7m3, k7m4, k7m5, k7m6, k7m7, k7m8, k7m9, k7m10]
  instanceTypes := #[(.array .byte), .byte, .int, .boolean]
  staticTypes := #[.long, .boolean, (.array (.object "java/io/ObjectStreamField")), .char, (.object "java/util/Comparator"), .byte, .byte]
  resolved := Array.replicate 1451 none
  statics := some 0 }

def pool8 : Array CpInfo := pool [(1, .class_ 2), (0, u "java/lang/Integer"), (0, .class_ 4), (0, u "java/lang/String"), (1, .class_ 8), (1, u "java/lang/Object"), (0, u "<init>"), (0, u "()V"), (0, .methodref 12 13), (0, .class_ 14), (0, .nameAndType 15 16), (0, u "java/lang/StringUTF16"), (0, u "newBytesLength"), (0, u "(I)I"), (3, .integer 1073741823), (23, .fieldref 12 45), (0, .nameAndType 46 47), (0, u "$assertionsDisabled"), (0, u "Z"), (0, .methodref 12 49), (0, .nameAndType 50 51), (0, u "length"), (0, u "([B)I"), (7, .fieldref 12 60), (0, .nameAndType 61 62), (0, u "HI_BYTE_SHIFT"), (0, u "I"), (0, .fieldref 12 64), (0, .nameAndType 65 62), (0, u "LO_BYTE_SHIFT"), (5, .methodref 12 72), (0, .nameAndType 73 74), (0, u "getChar"), (0, u "([BI)C"), (21, .methodref 12 97), (0, .nameAndType 98 99), (0, u "checkBoundsBeginEnd"), (0, u "(II[B)V"), (5, u "getChars"), (1, .methodref 12 108), (0, .nameAndType 109 110), (0, u "newBytesFor"), (0, u "(I)[B"), (0, .methodref 12 112), (0, .nameAndType 113 114), (0, u "putChar"), (0, u "([BII)V"), (0, .methodref 12 116), (0, .nameAndType 117 118), (0, u "compress"), (0, u "([CI[BII)I"), (0, .methodref 12 120), (0, .nameAndType 121 122), (0, u "toBytes"), (0, u "([CII)[B"), (17, u "inflate"), (0, u "([BI[BII)V"), (31, .methodref 12 174), (0, .nameAndType 175 99), (0, u "checkBoundsOffCount"), (65, .methodref 3 242), (0, .nameAndType 98 243), (0, u "(III)V"), (17, u "coderFromArrayLen"), (0, u "([BI)B"), (18, u "(III)I"), (87, .class_ 371), (1, u "java/lang/StringUTF16$LinesSpliterator"), (21, .methodref 12 394), (0, .nameAndType 105 395), (0, u "(II[B)I"), (7, .fieldref 1 404), (0, .nameAndType 405 406), (0, u "DigitOnes"), (0, u "[B"), (12, .methodref 3 420), (0, .nameAndType 175 281), (9, u "MAX_LENGTH"), (164, u "(III[B)I"), (31, .class_ 628), (0, u "java/lang/StringUTF16$CodePointsSpliterator"), (0, .class_ 630), (0, u "java/lang/StringUTF16$CharsSpliterator")] 4

def k8m0 : Method := { name := "<init>", desc := "()V", sig := { parameters := [], returnType := none }, accessFlags := 0, code := none }
def k8c1 : Code := { maxStack := 1, maxLocals := 1, code := jdk_52_method_2_code, exceptionTable := #[], attributes := #[] }
def k8m1 : Method := { name := "newBytesFor", desc := "(I)[B", sig := { parameters := [.int], returnType := some (.array .byte) }, accessFlags := 9, code := some k8c1 }
def k8c2 : Code := { maxStack := 4, maxLocals := 1, code := jdk_52_method_3_code, exceptionTable := #[], attributes := #[] }
def k8m2 : Method := { name := "newBytesLength", desc := "(I)I", sig := { parameters := [.int], returnType := some .int }, accessFlags := 9, code := some k8c2 }
def k8c3 : Code := { maxStack := 4, maxLocals := 3, code := jdk_52_method_4_code, exceptionTable := #[], attributes := #[] }
def k8m3 : Method := { name := "putChar", desc := "([BII)V", sig := { parameters := [(.array .byte), .int, .int], returnType := none }, accessFlags := 8, code := some k8c3 }
def k8c4 : Code := { maxStack := 3, maxLocals := 2, code := jdk_52_method_5_code, exceptionTable := #[], attributes := #[] }
def k8m4 : Method := { name := "getChar", desc := "([BI)C", sig := { parameters := [(.array .byte), .int], returnType := some .char }, accessFlags := 8, code := some k8c4 }
def k8c5 : Code := { maxStack := 2, maxLocals := 1, code := jdk_52_method_6_code, exceptionTable := #[], attributes := #[] }
def k8m5 : Method := { name := "length", desc := "([B)I", sig := { parameters := [(.array .byte)], returnType := some .int }, accessFlags := 9, code := some k8c5 }
def k8c6 : Code := { maxStack := 4, maxLocals := 5, code := jdk_52_method_14_code, exceptionTable := #[], attributes := #[] }
def k8m6 : Method := { name := "toBytes", desc := "([CII)[B", sig := { parameters := [(.array .char), .int, .int], returnType := some (.array .byte) }, accessFlags := 9, code := some k8c6 }
def k8c7 : Code := { maxStack := 2, maxLocals := 2, code := jdk_52_method_15_code, exceptionTable := #[], attributes := #[] }
def k8m7 : Method := { name := "coderFromArrayLen", desc := "([BI)B", sig := { parameters := [(.array .byte), .int], returnType := some .byte }, accessFlags := 8, code := some k8c7 }
def k8c8 : Code := { maxStack := 5, maxLocals := 6, code := jdk_52_method_16_code, exceptionTable := #[], attributes := #[] }
def k8m8 : Method := { name := "compress", desc := "([CII)[B", sig := { parameters := [(.array .char), .int, .int], returnType := some (.array .byte) }, accessFlags := 9, code := some k8c8 }
def k8c9 : Code := { maxStack := 3, maxLocals := 7, code := jdk_52_method_21_code, exceptionTable := #[], attributes := #[] }
def k8m9 : Method := { name := "compress", desc := "([CI[BII)I", sig := { parameters := [(.array .char), .int, (.array .byte), .int, .int], returnType := some .int }, accessFlags := 9, code := some k8c9 }
def k8c10 : Code := { maxStack := 3, maxLocals := 5, code := jdk_52_method_77_code, exceptionTable := #[], attributes := #[] }
def k8m10 : Method := { name := "getChars", desc := "(III[B)I", sig := { parameters := [.int, .int, .int, (.array .byte)], returnType := some .int }, accessFlags := 9, code := some k8c10 }
def k8c11 : Code := { maxStack := 4, maxLocals := 6, code := jdk_52_method_86_code, exceptionTable := #[], attributes := #[] }
def k8m11 : Method := { name := "inflate", desc := "([BI[BII)V", sig := { parameters := [(.array .byte), .int, (.array .byte), .int, .int], returnType := none }, accessFlags := 9, code := some k8c11 }
def k8c12 : Code := { maxStack := 4, maxLocals := 7, code := jdk_52_method_89_code, exceptionTable := #[], attributes := #[] }
def k8m12 : Method := { name := "getChars", desc := "(II[B)I", sig := { parameters := [.int, .int, (.array .byte)], returnType := some .int }, accessFlags := 8, code := some k8c12 }
def k8c13 : Code := { maxStack := 3, maxLocals := 3, code := jdk_52_method_93_code, exceptionTable := #[], attributes := #[] }
def k8m13 : Method := { name := "checkBoundsBeginEnd", desc := "(II[B)V", sig := { parameters := [.int, .int, (.array .byte)], returnType := none }, accessFlags := 9, code := some k8c13 }
def k8c14 : Code := { maxStack := 3, maxLocals := 3, code := jdk_52_method_94_code, exceptionTable := #[], attributes := #[] }
def k8m14 : Method := { name := "checkBoundsOffCount", desc := "(II[B)V", sig := { parameters := [.int, .int, (.array .byte)], returnType := none }, accessFlags := 9, code := some k8c14 }
/-- java/lang/StringUTF16 -/
def k8 : Class := { plain "java/lang/StringUTF16" (some 0) with
  accessFlags := 48
  interfaces := #[]
  cf := some (fileOf pool8 12 #[.nestMembers #[627, 629, 369]] #[{ accessFlags := 0, nameIndex := 9, descriptorIndex := 10, attributes := #[] }, { accessFlags := 9, nameIndex := 109, descriptorIndex := 110, attributes := #[] }, { accessFlags := 9, nameIndex := 15, descriptorIndex := 16, attributes := #[] }, { accessFlags := 8, nameIndex := 113, descriptorIndex := 114, attributes := #[] }, { accessFlags := 8, nameIndex := 73, descriptorIndex := 74, attributes := #[] }, { accessFlags := 9, nameIndex := 50, descriptorIndex := 51, attributes := #[] }, { accessFlags := 9, nameIndex := 121, descriptorIndex := 122, attributes := #[] }, { accessFlags := 8, nameIndex := 261, descriptorIndex := 262, attributes := #[] }, { accessFlags := 9, nameIndex := 117, descriptorIndex := 122, attributes := #[] }, { accessFlags := 9, nameIndex := 117, descriptorIndex := 118, attributes := #[] }, { accessFlags := 9, nameIndex := 105, descriptorIndex := 595, attributes := #[] }, { accessFlags := 9, nameIndex := 140, descriptorIndex := 141, attributes := #[] }, { accessFlags := 8, nameIndex := 105, descriptorIndex := 395, attributes := #[] }, { accessFlags := 9, nameIndex := 98, descriptorIndex := 99, attributes := #[] }, { accessFlags := 9, nameIndex := 175, descriptorIndex := 99, attributes := #[] }] 48 6 #[] #[{ accessFlags := 26, nameIndex := 61, descriptorIndex := 62, attributes := #[] }, { accessFlags := 26, nameIndex := 65, descriptorIndex := 62, attributes := #[] }, { accessFlags := 24, nameIndex := 430, descriptorIndex := 62, attributes := #[] }, { accessFlags := 4120, nameIndex := 46, descriptorIndex := 47, attributes := #[] }])
  fields := #[{ name := "HI_BYTE_SHIFT", type := .int, accessFlags := 26, slot := 0, constantValue := 0 }, { name := "LO_BYTE_SHIFT", type := .int, accessFlags := 26, slot := 1, constantValue := 0 }, { name := "MAX_LENGTH", type := .int, accessFlags := 24, slot := 2, constantValue := 0 }, { name := "$assertionsDisabled", type := .boolean, accessFlags := 4120, slot := 3, constantValue := 0 }]
  methods := #[k8m0, k8m1, k8m2, k8m3, k8m4, k8m5, k8m6, k8m7, k8m8, k8m9, k8m10, k8m11, k8m12, k8m13, k8m14]
  instanceTypes := #[]
  staticTypes := #[.int, .int, .int, .boolean]
  resolved := Array.replicate 635 none
  statics := some 1 }

def pool9 : Array CpInfo := pool [(1, .methodref 2 3), (0, .class_ 4), (0, .nameAndType 5 6), (0, u "java/lang/Object"), (0, u "<init>"), (0, u "()V"), (0, .class_ 8), (0, u "java/lang/Record")] 13

def k9c0 : Code := { maxStack := 1, maxLocals := 1, code := jdk_30_method_1_code, exceptionTable := #[], attributes := #[] }
def k9m0 : Method := { name := "<init>", desc := "()V", sig := { parameters := [], returnType := none }, accessFlags := 4, code := some k9c0 }
/-- java/lang/Record -/
def k9 : Class := { plain "java/lang/Record" (some 0) with
  accessFlags := 1057
  interfaces := #[]
  cf := some (fileOf pool9 7 #[] #[{ accessFlags := 4, nameIndex := 5, descriptorIndex := 6, attributes := #[] }] 1057 2 #[] #[])
  fields := #[]
  methods := #[k9m0]
  instanceTypes := #[]
  staticTypes := #[]
  resolved := Array.replicate 22 none
  statics := none }

def pool10 : Array CpInfo := pool [(1, .methodref 2 3), (0, .class_ 4), (0, .nameAndType 5 6), (0, u "java/lang/Record"), (0, u "<init>"), (0, u "()V"), (0, .fieldref 8 9), (0, .class_ 10), (0, .nameAndType 11 12), (0, u "com/example/vestry/vestry/ObjectName"), (0, u "within"), (0, u "Lcom/example/vestry/vestry/ObjectName;"), (0, .fieldref 8 14), (0, .nameAndType 15 16), (0, u "kind"), (0, u "Ljava/lang/String;"), (0, .fieldref 8 18), (0, .nameAndType 19 16), (0, u "id"), (0, .fieldref 8 21), (0, .nameAndType 22 23), (0, u "index"), (0, u "I"), (0, .methodref 8 25), (0, .nameAndType 5 26), (0, u "(Lcom/example/vestry/vestry/ObjectName;Ljava/lang/String;Ljava/lang/String;I)V"), (0, .class_ 28), (0, u "java/lang/StringBuilder"), (0, .methodref 27 3), (2, u "append"), (3, .methodref 27 37), (0, .nameAndType 32 38), (0, u "(Ljava/lang/String;)Ljava/lang/StringBuilder;"), (0, .methodref 8 40), (0, .nameAndType 41 42), (0, u "text"), (0, u "()Ljava/lang/String;"), (0, .methodref 27 44), (0, .nameAndType 45 42), (0, u "toString"), (0, .string 47), (0, u "["), (0, .methodref 27 49), (0, .nameAndType 32 50), (0, u "(I)Ljava/lang/StringBuilder;"), (0, .string 52), (0, u "]"), (0, .string 54), (0, u " \""), (0, .string 56), (0, u "\""), (16, u "of"), (0, u "(Ljava/lang/String;Ljava/lang/String;)Lcom/example/vestry/vestry/ObjectName;"), (6, u "()I"), (1, u "()Lcom/example/vestry/vestry/ObjectName;")] 23

def k10c0 : Code := { maxStack := 2, maxLocals := 5, code := prog_58_method_1_code, exceptionTable := #[], attributes := #[] }
def k10m0 : Method := { name := "<init>", desc := "(Lcom/example/vestry/vestry/ObjectName;Ljava/lang/String;Ljava/lang/String;I)V", sig := { parameters := [(.object "com/example/vestry/vestry/ObjectName"), (.object "java/lang/String"), (.object "java/lang/String"), .int], returnType := none }, accessFlags := 1, code := some k10c0 }
def k10c1 : Code := { maxStack := 6, maxLocals := 2, code := prog_58_method_2_code, exceptionTable := #[], attributes := #[] }
def k10m1 : Method := { name := "of", desc := "(Ljava/lang/String;Ljava/lang/String;)Lcom/example/vestry/vestry/ObjectName;", sig := { parameters := [(.object "java/lang/String"), (.object "java/lang/String")], returnType := some (.object "com/example/vestry/vestry/ObjectName") }, accessFlags := 9, code := some k10c1 }
def k10c2 : Code := { maxStack := 2, maxLocals := 3, code := prog_58_method_5_code, exceptionTable := #[], attributes := #[] }
def k10m2 : Method := { name := "text", desc := "()Ljava/lang/String;", sig := { parameters := [], returnType := some (.object "java/lang/String") }, accessFlags := 1, code := some k10c2 }
def k10c3 : Code := { maxStack := 1, maxLocals := 1, code := prog_58_method_9_code, exceptionTable := #[], attributes := #[] }
def k10m3 : Method := { name := "within", desc := "()Lcom/example/vestry/vestry/ObjectName;", sig := { parameters := [], returnType := some (.object "com/example/vestry/vestry/ObjectName") }, accessFlags := 1, code := some k10c3 }
def k10c4 : Code := { maxStack := 1, maxLocals := 1, code := prog_58_method_10_code, exceptionTable := #[], attributes := #[] }
def k10m4 : Method := { name := "kind", desc := "()Ljava/lang/String;", sig := { parameters := [], returnType := some (.object "java/lang/String") }, accessFlags := 1, code := some k10c4 }
def k10c5 : Code := { maxStack := 1, maxLocals := 1, code := prog_58_method_11_code, exceptionTable := #[], attributes := #[] }
def k10m5 : Method := { name := "id", desc := "()Ljava/lang/String;", sig := { parameters := [], returnType := some (.object "java/lang/String") }, accessFlags := 1, code := some k10c5 }
def k10c6 : Code := { maxStack := 1, maxLocals := 1, code := prog_58_method_12_code, exceptionTable := #[], attributes := #[] }
def k10m6 : Method := { name := "index", desc := "()I", sig := { parameters := [], returnType := some .int }, accessFlags := 1, code := some k10c6 }
/-- com/example/vestry/vestry/ObjectName -/
def k10 : Class := { plain "com/example/vestry/vestry/ObjectName" (some 9) with
  accessFlags := 49
  interfaces := #[]
  cf := some (fileOf pool10 8 #[] #[{ accessFlags := 1, nameIndex := 5, descriptorIndex := 26, attributes := #[] }, { accessFlags := 9, nameIndex := 73, descriptorIndex := 74, attributes := #[] }, { accessFlags := 1, nameIndex := 41, descriptorIndex := 42, attributes := #[] }, { accessFlags := 1, nameIndex := 11, descriptorIndex := 83, attributes := #[] }, { accessFlags := 1, nameIndex := 15, descriptorIndex := 42, attributes := #[] }, { accessFlags := 1, nameIndex := 19, descriptorIndex := 42, attributes := #[] }, { accessFlags := 1, nameIndex := 22, descriptorIndex := 81, attributes := #[] }] 49 2 #[] #[{ accessFlags := 18, nameIndex := 11, descriptorIndex := 12, attributes := #[] }, { accessFlags := 18, nameIndex := 15, descriptorIndex := 16, attributes := #[] }, { accessFlags := 18, nameIndex := 19, descriptorIndex := 16, attributes := #[] }, { accessFlags := 18, nameIndex := 22, descriptorIndex := 23, attributes := #[] }])
  fields := #[{ name := "within", type := (.object "com/example/vestry/vestry/ObjectName"), accessFlags := 18, slot := 0, constantValue := 0 }, { name := "kind", type := (.object "java/lang/String"), accessFlags := 18, slot := 1, constantValue := 0 }, { name := "id", type := (.object "java/lang/String"), accessFlags := 18, slot := 2, constantValue := 0 }, { name := "index", type := .int, accessFlags := 18, slot := 3, constantValue := 0 }]
  methods := #[k10m0, k10m1, k10m2, k10m3, k10m4, k10m5, k10m6]
  instanceTypes := #[(.object "com/example/vestry/vestry/ObjectName"), (.object "java/lang/String"), (.object "java/lang/String"), .int]
  staticTypes := #[]
  resolved := Array.replicate 107 none
  statics := none }

def pool11 : Array CpInfo := pool [(1, .class_ 2), (0, u "java/lang/Appendable"), (0, .class_ 4), (0, u "java/lang/Object")] 9

/-- java/lang/Appendable -/
def k11 : Class := { plain "java/lang/Appendable" (some 0) with
  accessFlags := 1537
  interfaces := #[]
  cf := some (fileOf pool11 1 #[] #[] 1537 3 #[] #[])
  fields := #[]
  methods := #[]
  instanceTypes := #[]
  staticTypes := #[]
  resolved := Array.replicate 14 none
  statics := none }

def pool12 : Array CpInfo := pool [(1, .class_ 2), (0, u "java/lang/String"), (0, .methodref 4 5), (0, .class_ 6), (0, .nameAndType 7 8), (0, u "java/lang/Object"), (0, u "<init>"), (0, u "()V"), (1, .class_ 12), (1, u "java/lang/AbstractStringBuilder"), (0, u "EMPTYVALUE"), (0, u "[B"), (0, .fieldref 10 16), (0, .nameAndType 17 14), (0, u "value"), (0, .fieldref 1 19), (0, .nameAndType 20 21), (0, u "COMPACT_STRINGS"), (0, u "Z"), (0, .fieldref 10 23), (0, .nameAndType 24 25), (0, u "coder"), (0, u "B"), (0, .methodref 27 28), (0, .class_ 29), (0, .nameAndType 30 31), (0, u "java/lang/StringUTF16"), (0, u "newBytesFor"), (0, u "(I)[B"), (0, .methodref 1 33), (0, .nameAndType 34 35), (0, u "length"), (0, u "()I"), (0, .class_ 37), (0, u "java/lang/Integer"), (2, .methodref 1 41), (0, .nameAndType 24 42), (0, u "()B"), (2, u "append"), (0, u "(Ljava/lang/String;)Ljava/lang/AbstractStringBuilder;"), (1, .class_ 49), (0, u "java/lang/CharSequence"), (19, u "(Ljava/lang/String;)V"), (5, u "maybeLatin1"), (3, .fieldref 10 80), (0, .nameAndType 81 82), (0, u "count"), (0, u "I"), (0, .methodref 10 84), (0, .nameAndType 85 86), (0, u "isLatin1"), (0, u "()Z"), (1, .class_ 90), (1, u "java/lang/StringLatin1"), (9, .methodref 10 101), (0, .nameAndType 102 103), (0, u "ensureCapacityInternal"), (0, u "(I)V"), (3, u "(I)I"), (17, .methodref 88 126), (0, .nameAndType 127 128), (0, u "inflate"), (0, u "([BI[BII)V"), (59, u "getChars"), (6, .methodref 10 196), (0, .nameAndType 127 8), (11, .methodref 10 209), (0, .nameAndType 210 211), (0, u "putStringAt"), (0, u "(ILjava/lang/String;)V"), (5, u "inflateIfNeededFor"), (2, .nameAndType 221 222), (0, u "getBytes"), (0, u "([BIB)V"), (22, .methodref 36 246), (0, .nameAndType 247 107), (0, u "stringSize"), (0, .methodref 36 249), (0, .nameAndType 188 250), (0, u "(II[B)I"), (0, .methodref 27 252), (0, .nameAndType 188 253), (0, u "(III[B)I"), (143, .methodref 10 398), (0, .nameAndType 217 69), (0, .methodref 1 220), (3, u "()[B"), (40, .class_ 445), (0, u "java/lang/Appendable"), (65, u "(I)Ljava/lang/AbstractStringBuilder;"), (40, u "getValue")] 56

def k12m0 : Method := { name := "<init>", desc := "()V", sig := { parameters := [], returnType := none }, accessFlags := 0, code := none }
def k12c1 : Code := { maxStack := 2, maxLocals := 2, code := jdk_68_method_2_code, exceptionTable := #[], attributes := #[] }
def k12m1 : Method := { name := "<init>", desc := "(I)V", sig := { parameters := [.int], returnType := none }, accessFlags := 0, code := some k12c1 }
def k12c2 : Code := { maxStack := 1, maxLocals := 1, code := jdk_68_method_6_code, exceptionTable := #[], attributes := #[] }
def k12m2 : Method := { name := "length", desc := "()I", sig := { parameters := [], returnType := some .int }, accessFlags := 1, code := some k12c2 }
def k12c3 : Code := { maxStack := 4, maxLocals := 3, code := jdk_68_method_9_code, exceptionTable := #[], attributes := #[] }
def k12m3 : Method := { name := "ensureCapacityInternal", desc := "(I)V", sig := { parameters := [.int], returnType := none }, accessFlags := 2, code := some k12c3 }
def k12c4 : Code := { maxStack := 5, maxLocals := 2, code := jdk_68_method_11_code, exceptionTable := #[], attributes := #[] }
def k12m4 : Method := { name := "inflate", desc := "()V", sig := { parameters := [], returnType := none }, accessFlags := 2, code := some k12c4 }
def k12c5 : Code := { maxStack := 3, maxLocals := 3, code := jdk_68_method_22_code, exceptionTable := #[], attributes := #[] }
def k12m5 : Method := { name := "append", desc := "(Ljava/lang/String;)Ljava/lang/AbstractStringBuilder;", sig := { parameters := [(.object "java/lang/String")], returnType := some (.object "java/lang/AbstractStringBuilder") }, accessFlags := 1, code := some k12c5 }
def k12c6 : Code := { maxStack := 4, maxLocals := 4, code := jdk_68_method_32_code, exceptionTable := #[], attributes := #[] }
def k12m6 : Method := { name := "append", desc := "(I)Ljava/lang/AbstractStringBuilder;", sig := { parameters := [.int], returnType := some (.object "java/lang/AbstractStringBuilder") }, accessFlags := 1, code := some k12c6 }
def k12c7 : Code := { maxStack := 1, maxLocals := 1, code := jdk_68_method_64_code, exceptionTable := #[], attributes := #[] }
def k12m7 : Method := { name := "getValue", desc := "()[B", sig := { parameters := [], returnType := some (.array .byte) }, accessFlags := 16, code := some k12c7 }
def k12c8 : Code := { maxStack := 1, maxLocals := 1, code := jdk_68_method_68_code, exceptionTable := #[], attributes := #[] }
def k12m8 : Method := { name := "isLatin1", desc := "()Z", sig := { parameters := [], returnType := some .boolean }, accessFlags := 16, code := some k12c8 }
def k12c9 : Code := { maxStack := 2, maxLocals := 2, code := jdk_68_method_71_code, exceptionTable := #[], attributes := #[] }
def k12m9 : Method := { name := "inflateIfNeededFor", desc := "(Ljava/lang/String;)V", sig := { parameters := [(.object "java/lang/String")], returnType := none }, accessFlags := 2, code := some k12c9 }
def k12c10 : Code := { maxStack := 4, maxLocals := 3, code := jdk_68_method_73_code, exceptionTable := #[], attributes := #[] }
def k12m10 : Method := { name := "putStringAt", desc := "(ILjava/lang/String;)V", sig := { parameters := [.int, (.object "java/lang/String")], returnType := none }, accessFlags := 2, code := some k12c10 }
/-- java/lang/AbstractStringBuilder -/
def k12 : Class := { plain "java/lang/AbstractStringBuilder" (some 0) with
  accessFlags := 1056
  interfaces := #[11, 4]
  cf := some (fileOf pool12 10 #[] #[{ accessFlags := 0, nameIndex := 7, descriptorIndex := 8, attributes := #[] }, { accessFlags := 0, nameIndex := 7, descriptorIndex := 103, attributes := #[] }, { accessFlags := 1, nameIndex := 34, descriptorIndex := 35, attributes := #[] }, { accessFlags := 2, nameIndex := 102, descriptorIndex := 103, attributes := #[] }, { accessFlags := 2, nameIndex := 127, descriptorIndex := 8, attributes := #[] }, { accessFlags := 1, nameIndex := 45, descriptorIndex := 46, attributes := #[] }, { accessFlags := 1, nameIndex := 45, descriptorIndex := 511, attributes := #[] }, { accessFlags := 16, nameIndex := 552, descriptorIndex := 403, attributes := #[] }, { accessFlags := 16, nameIndex := 85, descriptorIndex := 86, attributes := #[] }, { accessFlags := 2, nameIndex := 217, descriptorIndex := 69, attributes := #[] }, { accessFlags := 2, nameIndex := 210, descriptorIndex := 211, attributes := #[] }] 1056 4 #[444, 48] #[{ accessFlags := 0, nameIndex := 17, descriptorIndex := 14, attributes := #[] }, { accessFlags := 0, nameIndex := 24, descriptorIndex := 25, attributes := #[] }, { accessFlags := 0, nameIndex := 75, descriptorIndex := 21, attributes := #[] }, { accessFlags := 0, nameIndex := 81, descriptorIndex := 82, attributes := #[] }, { accessFlags := 26, nameIndex := 13, descriptorIndex := 14, attributes := #[] }])
  fields := #[{ name := "value", type := (.array .byte), accessFlags := 0, slot := 0, constantValue := 0 }, { name := "coder", type := .byte, accessFlags := 0, slot := 1, constantValue := 0 }, { name := "maybeLatin1", type := .boolean, accessFlags := 0, slot := 2, constantValue := 0 }, { name := "count", type := .int, accessFlags := 0, slot := 3, constantValue := 0 }, { name := "EMPTYVALUE", type := (.array .byte), accessFlags := 26, slot := 0, constantValue := 0 }]
  methods := #[k12m0, k12m1, k12m2, k12m3, k12m4, k12m5, k12m6, k12m7, k12m8, k12m9, k12m10]
  instanceTypes := #[(.array .byte), .byte, .boolean, .int]
  staticTypes := #[(.array .byte)]
  resolved := Array.replicate 609 none
  statics := none }

def pool13 : Array CpInfo := pool [(1, .methodref 2 3), (0, .class_ 4), (0, .nameAndType 5 6), (0, u "java/lang/AbstractStringBuilder"), (0, u "<init>"), (0, u "(I)V"), (11, .class_ 20), (1, u "java/lang/String"), (3, .class_ 26), (1, u "java/lang/StringBuilder"), (0, u "append"), (0, u "(Ljava/lang/String;)Ljava/lang/StringBuilder;"), (0, .methodref 2 30), (0, .nameAndType 27 31), (0, u "(Ljava/lang/String;)Ljava/lang/AbstractStringBuilder;"), (21, .methodref 2 54), (0, .nameAndType 27 55), (0, u "(I)Ljava/lang/AbstractStringBuilder;"), (81, .methodref 18 138), (0, .nameAndType 5 139), (0, u "(Ljava/lang/StringBuilder;)V"), (5, u "()V"), (10, u "()I"), (111, u "(I)Ljava/lang/StringBuilder;"), (74, .methodref 2 344), (0, .nameAndType 345 156), (0, u "length"), (3, .class_ 350), (0, u "java/lang/Appendable"), (0, .class_ 352), (0, u "java/io/Serializable"), (0, .class_ 354), (0, u "java/lang/Comparable"), (0, .class_ 356), (0, u "java/lang/CharSequence"), (0, u "serialVersionUID"), (0, u "J"), (40, u "toString"), (0, u "()Ljava/lang/String;")] 21

def k13c0 : Code := { maxStack := 2, maxLocals := 1, code := jdk_67_method_1_code, exceptionTable := #[], attributes := #[] }
def k13m0 : Method := { name := "<init>", desc := "()V", sig := { parameters := [], returnType := none }, accessFlags := 1, code := some k13c0 }
def k13c1 : Code := { maxStack := 2, maxLocals := 2, code := jdk_67_method_7_code, exceptionTable := #[], attributes := #[] }
def k13m1 : Method := { name := "append", desc := "(Ljava/lang/String;)Ljava/lang/StringBuilder;", sig := { parameters := [(.object "java/lang/String")], returnType := some (.object "java/lang/StringBuilder") }, accessFlags := 1, code := some k13c1 }
def k13c2 : Code := { maxStack := 2, maxLocals := 2, code := jdk_67_method_15_code, exceptionTable := #[], attributes := #[] }
def k13m2 : Method := { name := "append", desc := "(I)Ljava/lang/StringBuilder;", sig := { parameters := [.int], returnType := some (.object "java/lang/StringBuilder") }, accessFlags := 1, code := some k13c2 }
def k13c3 : Code := { maxStack := 3, maxLocals := 1, code := jdk_67_method_42_code, exceptionTable := #[], attributes := #[] }
def k13m3 : Method := { name := "toString", desc := "()Ljava/lang/String;", sig := { parameters := [], returnType := some (.object "java/lang/String") }, accessFlags := 1, code := some k13c3 }
def k13c4 : Code := { maxStack := 1, maxLocals := 1, code := jdk_67_method_93_code, exceptionTable := #[], attributes := #[] }
def k13m4 : Method := { name := "length", desc := "()I", sig := { parameters := [], returnType := some .int }, accessFlags := 4161, code := some k13c4 }
/-- java/lang/StringBuilder -/
def k13 : Class := { plain "java/lang/StringBuilder" (some 12) with
  accessFlags := 49
  interfaces := #[11, 2, 3, 4]
  cf := some (fileOf pool13 24 #[] #[{ accessFlags := 1, nameIndex := 5, descriptorIndex := 145, attributes := #[] }, { accessFlags := 1, nameIndex := 27, descriptorIndex := 28, attributes := #[] }, { accessFlags := 1, nameIndex := 27, descriptorIndex := 268, attributes := #[] }, { accessFlags := 1, nameIndex := 399, descriptorIndex := 400, attributes := #[] }, { accessFlags := 4161, nameIndex := 345, descriptorIndex := 156, attributes := #[] }] 49 2 #[349, 351, 353, 355] #[{ accessFlags := 24, nameIndex := 357, descriptorIndex := 358, attributes := #[] }])
  fields := #[{ name := "serialVersionUID", type := .long, accessFlags := 24, slot := 0, constantValue := 0 }]
  methods := #[k13m0, k13m1, k13m2, k13m3, k13m4]
  instanceTypes := #[(.array .byte), .byte, .boolean, .int]
  staticTypes := #[.long]
  resolved := Array.replicate 422 none
  statics := none }

def pool14 : Array CpInfo := pool [(2, .class_ 4), (1, u "java/lang/Object"), (0, u "<init>"), (0, u "()V"), (1, .class_ 10), (1, u "java/lang/System"), (0, u "allowSecurityManager"), (0, u "I"), (16, u "cons"), (0, u "Ljava/io/Console;"), (77, .class_ 110), (1, u "java/lang/System$CallersHolder"), (43, u "initialErrStream"), (0, u "Ljava/io/PrintStream;"), (19, u "security"), (0, u "Ljava/lang/SecurityManager;"), (31, .class_ 209), (0, u "java/lang/System$1"), (7, u "props"), (0, u "Ljava/util/Properties;"), (2, u "lineSeparator"), (0, u "Ljava/lang/String;"), (96, .class_ 321), (1, u "java/lang/System$LoggerFinder"), (5, .class_ 328), (0, u "java/lang/System$Logger"), (67, u "err"), (2, u "out"), (91, u "notSupportedJnuEncoding"), (15, u "in"), (17, u "initialIn"), (0, u "Ljava/io/InputStream;"), (35, u "bootLayer"), (0, u "Ljava/lang/ModuleLayer;"), (99, .class_ 664), (0, u "java/lang/System$2"), (9, u "NEVER"), (2, u "MAYBE"), (49, u "arraycopy"), (0, u "(Ljava/lang/Object;ILjava/lang/Object;II)V"), (72, .class_ 802), (0, u "java/lang/System$Logger$Level")] 31

def k14m0 : Method := { name := "<init>", desc := "()V", sig := { parameters := [], returnType := none }, accessFlags := 2, code := none }
def k14m1 : Method := { name := "arraycopy", desc := "(Ljava/lang/Object;ILjava/lang/Object;II)V", sig := { parameters := [(.object "java/lang/Object"), .int, (.object "java/lang/Object"), .int, .int], returnType := none }, accessFlags := 265, code := none }
/-- java/lang/System -/
def k14 : Class := { plain "java/lang/System" (some 0) with
  accessFlags := 49
  interfaces := #[]
  cf := some (fileOf pool14 8 #[.nestMembers #[319, 327, 801, 108, 663, 208]] #[{ accessFlags := 2, nameIndex := 5, descriptorIndex := 6, attributes := #[] }, { accessFlags := 265, nameIndex := 727, descriptorIndex := 728, attributes := #[] }] 49 2 #[] #[{ accessFlags := 25, nameIndex := 507, descriptorIndex := 526, attributes := #[] }, { accessFlags := 25, nameIndex := 399, descriptorIndex := 155, attributes := #[] }, { accessFlags := 25, nameIndex := 396, descriptorIndex := 155, attributes := #[] }, { accessFlags := 10, nameIndex := 525, descriptorIndex := 526, attributes := #[] }, { accessFlags := 26, nameIndex := 674, descriptorIndex := 12, attributes := #[] }, { accessFlags := 26, nameIndex := 677, descriptorIndex := 12, attributes := #[] }, { accessFlags := 10, nameIndex := 11, descriptorIndex := 12, attributes := #[] }, { accessFlags := 74, nameIndex := 175, descriptorIndex := 176, attributes := #[] }, { accessFlags := 10, nameIndex := 491, descriptorIndex := 222, attributes := #[] }, { accessFlags := 74, nameIndex := 29, descriptorIndex := 30, attributes := #[] }, { accessFlags := 74, nameIndex := 154, descriptorIndex := 155, attributes := #[] }, { accessFlags := 10, nameIndex := 217, descriptorIndex := 218, attributes := #[] }, { accessFlags := 10, nameIndex := 221, descriptorIndex := 222, attributes := #[] }, { accessFlags := 8, nameIndex := 562, descriptorIndex := 563, attributes := #[] }])
  fields := #[{ name := "in", type := (.object "java/io/InputStream"), accessFlags := 25, slot := 0, constantValue := 0 }, { name := "out", type := (.object "java/io/PrintStream"), accessFlags := 25, slot := 1, constantValue := 0 }, { name := "err", type := (.object "java/io/PrintStream"), accessFlags := 25, slot := 2, constantValue := 0 }, { name := "initialIn", type := (.object "java/io/InputStream"), accessFlags := 10, slot := 3, constantValue := 0 }, { name := "NEVER", type := .int, accessFlags := 26, slot := 4, constantValue := 0 }, { name := "MAYBE", type := .int, accessFlags := 26, slot := 5, constantValue := 0 }, { name := "allowSecurityManager", type := .int, accessFlags := 10, slot := 6, constantValue := 0 }, { name := "security", type := (.object "java/lang/SecurityManager"), accessFlags := 74, slot := 7, constantValue := 0 }, { name := "notSupportedJnuEncoding", type := (.object "java/lang/String"), accessFlags := 10, slot := 8, constantValue := 0 }, { name := "cons", type := (.object "java/io/Console"), accessFlags := 74, slot := 9, constantValue := 0 }, { name := "initialErrStream", type := (.object "java/io/PrintStream"), accessFlags := 74, slot := 10, constantValue := 0 }, { name := "props", type := (.object "java/util/Properties"), accessFlags := 10, slot := 11, constantValue := 0 }, { name := "lineSeparator", type := (.object "java/lang/String"), accessFlags := 10, slot := 12, constantValue := 0 }, { name := "bootLayer", type := (.object "java/lang/ModuleLayer"), accessFlags := 8, slot := 13, constantValue := 0 }]
  methods := #[k14m0, k14m1]
  instanceTypes := #[]
  staticTypes := #[(.object "java/io/InputStream"), (.object "java/io/PrintStream"), (.object "java/io/PrintStream"), (.object "java/io/InputStream"), .int, .int, .int, (.object "java/lang/SecurityManager"), (.object "java/lang/String"), (.object "java/io/Console"), (.object "java/io/PrintStream"), (.object "java/util/Properties"), (.object "java/lang/String"), (.object "java/lang/ModuleLayer")]
  resolved := Array.replicate 834 none
  statics := none }

def pool15 : Array CpInfo := pool [(2, .class_ 4), (1, u "java/lang/Object"), (0, u "<init>"), (0, u "()V"), (1, .class_ 10), (1, u "java/lang/Number"), (2, .class_ 14), (0, u "java/io/Serializable"), (0, u "serialVersionUID"), (0, u "J")] 20

def k15m0 : Method := { name := "<init>", desc := "()V", sig := { parameters := [], returnType := none }, accessFlags := 1, code := none }
/-- java/lang/Number -/
def k15 : Class := { plain "java/lang/Number" (some 0) with
  accessFlags := 1057
  interfaces := #[2]
  cf := some (fileOf pool15 8 #[] #[{ accessFlags := 1, nameIndex := 5, descriptorIndex := 6, attributes := #[] }] 1057 2 #[13] #[{ accessFlags := 26, nameIndex := 15, descriptorIndex := 16, attributes := #[] }])
  fields := #[{ name := "serialVersionUID", type := .long, accessFlags := 26, slot := 0, constantValue := 0 }]
  methods := #[k15m0]
  instanceTypes := #[]
  staticTypes := #[.long]
  resolved := Array.replicate 37 none
  statics := none }

def pool16 : Array CpInfo := pool [(1, .class_ 2), (0, u "java/lang/Integer"), (16, u "digits"), (0, u "[C"), (33, u "(I)I"), (19, u "stringSize"), (2, u "getChars"), (0, u "(II[B)I"), (4, .fieldref 1 84), (0, .nameAndType 85 86), (0, u "DigitOnes"), (0, u "[B"), (2, u "DigitTens"), (99, .class_ 190), (0, u "java/lang/Integer$IntegerCache"), (3, u "I"), (8, .class_ 204), (0, u "java/lang/Number"), (2, u "value"), (94, u "TYPE"), (0, u "Ljava/lang/Class;"), (0, .class_ 305), (0, u "java/lang/Comparable"), (0, .class_ 307), (0, u "java/lang/constant/Constable"), (0, .class_ 309), (0, u "java/lang/constant/ConstantDesc"), (0, u "MIN_VALUE"), (1, u "MAX_VALUE"), (3, u "SIZE"), (1, u "BYTES"), (1, u "serialVersionUID"), (0, u "J")] 131

def k16c0 : Code := { maxStack := 4, maxLocals := 7, code := jdk_33_method_12_code, exceptionTable := #[], attributes := #[] }
def k16m0 : Method := { name := "getChars", desc := "(II[B)I", sig := { parameters := [.int, .int, (.array .byte)], returnType := some .int }, accessFlags := 8, code := some k16c0 }
def k16c1 : Code := { maxStack := 2, maxLocals := 4, code := jdk_33_method_13_code, exceptionTable := #[], attributes := #[] }
def k16m1 : Method := { name := "stringSize", desc := "(I)I", sig := { parameters := [.int], returnType := some .int }, accessFlags := 8, code := some k16c1 }
/-- java/lang/Integer -/
def k16 : Class := { plain "java/lang/Integer" (some 15) with
  accessFlags := 49
  interfaces := #[3, 5, 6]
  cf := some (fileOf pool16 1 #[.nestMembers #[189]] #[{ accessFlags := 8, nameIndex := 77, descriptorIndex := 78, attributes := #[] }, { accessFlags := 8, nameIndex := 74, descriptorIndex := 54, attributes := #[] }] 49 203 #[304, 306, 308] #[{ accessFlags := 25, nameIndex := 310, descriptorIndex := 194, attributes := #[] }, { accessFlags := 25, nameIndex := 312, descriptorIndex := 194, attributes := #[] }, { accessFlags := 25, nameIndex := 302, descriptorIndex := 303, attributes := #[] }, { accessFlags := 24, nameIndex := 19, descriptorIndex := 20, attributes := #[] }, { accessFlags := 24, nameIndex := 89, descriptorIndex := 86, attributes := #[] }, { accessFlags := 24, nameIndex := 85, descriptorIndex := 86, attributes := #[] }, { accessFlags := 18, nameIndex := 207, descriptorIndex := 194, attributes := #[] }, { accessFlags := 25, nameIndex := 316, descriptorIndex := 194, attributes := #[] }, { accessFlags := 25, nameIndex := 318, descriptorIndex := 194, attributes := #[] }, { accessFlags := 26, nameIndex := 320, descriptorIndex := 321, attributes := #[] }])
  fields := #[{ name := "MIN_VALUE", type := .int, accessFlags := 25, slot := 0, constantValue := 0 }, { name := "MAX_VALUE", type := .int, accessFlags := 25, slot := 1, constantValue := 0 }, { name := "TYPE", type := (.object "java/lang/Class"), accessFlags := 25, slot := 2, constantValue := 0 }, { name := "digits", type := (.array .char), accessFlags := 24, slot := 3, constantValue := 0 }, { name := "DigitTens", type := (.array .byte), accessFlags := 24, slot := 4, constantValue := 0 }, { name := "DigitOnes", type := (.array .byte), accessFlags := 24, slot := 5, constantValue := 0 }, { name := "value", type := .int, accessFlags := 18, slot := 0, constantValue := 0 }, { name := "SIZE", type := .int, accessFlags := 25, slot := 6, constantValue := 0 }, { name := "BYTES", type := .int, accessFlags := 25, slot := 7, constantValue := 0 }, { name := "serialVersionUID", type := .long, accessFlags := 26, slot := 8, constantValue := 0 }]
  methods := #[k16m0, k16m1]
  instanceTypes := #[.int]
  staticTypes := #[.int, .int, (.object "java/lang/Class"), (.array .char), (.array .byte), (.array .byte), .int, .int, .long]
  resolved := Array.replicate 453 none
  statics := some 2 }

def pool17 : Array CpInfo := pool [(2, .class_ 4), (1, u "java/lang/Object"), (0, u "<init>"), (0, u "()V"), (7, .class_ 16), (1, u "java/util/Arrays"), (57, .class_ 76), (1, u "java/util/Arrays$NaturalOrder"), (36, .class_ 115), (1, u "java/util/Arrays$LegacyMergeSort"), (1, u "Z"), (21, u "copyOfRange"), (10, .methodref 151 152), (0, .class_ 153), (0, .nameAndType 154 155), (0, u "java/lang/System"), (0, u "arraycopy"), (0, u "(Ljava/lang/Object;ILjava/lang/Object;II)V"), (148, .methodref 305 306), (0, .class_ 307), (0, .nameAndType 308 309), (0, u "java/lang/Math"), (0, u "min"), (0, u "(II)I"), (29, .methodref 14 340), (0, .nameAndType 341 342), (0, u "copyOfRangeByte"), (0, u "([BII)[B"), (0, .methodref 14 344), (0, .nameAndType 345 346), (0, u "checkLength"), (0, u "(II)V"), (28, .class_ 376), (0, u "java/util/Arrays$ArrayList"), (68, u "$assertionsDisabled"), (269, u "MIN_ARRAY_SORT_GRAN"), (0, u "I"), (2, u "INSERTIONSORT_THRESHOLD"), (255, .class_ 976), (0, u "java/util/Arrays$ArrayItr")] 52

def k17m0 : Method := { name := "<init>", desc := "()V", sig := { parameters := [], returnType := none }, accessFlags := 2, code := none }
def k17c1 : Code := { maxStack := 4, maxLocals := 2, code := jdk_65_method_131_code, exceptionTable := #[], attributes := #[] }
def k17m1 : Method := { name := "checkLength", desc := "(II)V", sig := { parameters := [.int, .int], returnType := none }, accessFlags := 10, code := some k17c1 }
def k17c2 : Code := { maxStack := 3, maxLocals := 3, code := jdk_65_method_132_code, exceptionTable := #[], attributes := #[] }
def k17m2 : Method := { name := "copyOfRange", desc := "([BII)[B", sig := { parameters := [(.array .byte), .int, .int], returnType := some (.array .byte) }, accessFlags := 9, code := some k17c2 }
def k17c3 : Code := { maxStack := 6, maxLocals := 5, code := jdk_65_method_133_code, exceptionTable := #[], attributes := #[] }
def k17m3 : Method := { name := "copyOfRangeByte", desc := "([BII)[B", sig := { parameters := [(.array .byte), .int, .int], returnType := some (.array .byte) }, accessFlags := 10, code := some k17c3 }
/-- java/util/Arrays -/
def k17 : Class := { plain "java/util/Arrays" (some 0) with
  accessFlags := 49
  interfaces := #[]
  cf := some (fileOf pool17 14 #[.nestMembers #[975, 375, 113, 74]] #[{ accessFlags := 2, nameIndex := 5, descriptorIndex := 6, attributes := #[] }, { accessFlags := 10, nameIndex := 345, descriptorIndex := 346, attributes := #[] }, { accessFlags := 9, nameIndex := 139, descriptorIndex := 342, attributes := #[] }, { accessFlags := 10, nameIndex := 341, descriptorIndex := 342, attributes := #[] }] 49 2 #[] #[{ accessFlags := 26, nameIndex := 715, descriptorIndex := 716, attributes := #[] }, { accessFlags := 26, nameIndex := 719, descriptorIndex := 716, attributes := #[] }, { accessFlags := 4120, nameIndex := 445, descriptorIndex := 117, attributes := #[] }])
  fields := #[{ name := "MIN_ARRAY_SORT_GRAN", type := .int, accessFlags := 26, slot := 0, constantValue := 0 }, { name := "INSERTIONSORT_THRESHOLD", type := .int, accessFlags := 26, slot := 1, constantValue := 0 }, { name := "$assertionsDisabled", type := .boolean, accessFlags := 4120, slot := 2, constantValue := 0 }]
  methods := #[k17m0, k17m1, k17m2, k17m3]
  instanceTypes := #[]
  staticTypes := #[.int, .int, .boolean]
  resolved := Array.replicate 1029 none
  statics := none }

def pool18 : Array CpInfo := pool [(1, .class_ 2), (0, u "java/lang/Math"), (1, .class_ 6), (1, u "java/lang/Object"), (0, u "<init>"), (0, u "()V"), (89, .class_ 100), (1, u "java/lang/Math$RandomNumberGeneratorHolder"), (71, u "negativeZeroFloatBits"), (0, u "J"), (2, u "negativeZeroDoubleBits"), (24, u "min"), (43, u "$assertionsDisabled"), (0, u "Z"), (88, u "(II)I"), (2, u "twoToTheDoubleScaleDown"), (0, u "D"), (4, u "twoToTheDoubleScaleUp"), (9, u "E"), (3, u "PI"), (2, u "TAU"), (2, u "DEGREES_TO_RADIANS"), (0, u "RADIANS_TO_DEGREES")] 94

def k18m0 : Method := { name := "<init>", desc := "()V", sig := { parameters := [], returnType := none }, accessFlags := 2, code := none }
def k18c1 : Code := { maxStack := 2, maxLocals := 2, code := jdk_29_method_69_code, exceptionTable := #[], attributes := #[] }
def k18m1 : Method := { name := "min", desc := "(II)I", sig := { parameters := [.int, .int], returnType := some .int }, accessFlags := 9, code := some k18c1 }
/-- java/lang/Math -/
def k18 : Class := { plain "java/lang/Math" (some 0) with
  accessFlags := 49
  interfaces := #[]
  cf := some (fileOf pool18 1 #[.nestMembers #[98]] #[{ accessFlags := 2, nameIndex := 7, descriptorIndex := 8, attributes := #[] }, { accessFlags := 9, nameIndex := 201, descriptorIndex := 335, attributes := #[] }] 49 4 #[] #[{ accessFlags := 25, nameIndex := 354, descriptorIndex := 339, attributes := #[] }, { accessFlags := 25, nameIndex := 358, descriptorIndex := 339, attributes := #[] }, { accessFlags := 25, nameIndex := 361, descriptorIndex := 339, attributes := #[] }, { accessFlags := 26, nameIndex := 364, descriptorIndex := 339, attributes := #[] }, { accessFlags := 26, nameIndex := 365, descriptorIndex := 339, attributes := #[] }, { accessFlags := 26, nameIndex := 172, descriptorIndex := 173, attributes := #[] }, { accessFlags := 26, nameIndex := 176, descriptorIndex := 173, attributes := #[] }, { accessFlags := 8, nameIndex := 344, descriptorIndex := 339, attributes := #[] }, { accessFlags := 8, nameIndex := 338, descriptorIndex := 339, attributes := #[] }, { accessFlags := 4120, nameIndex := 245, descriptorIndex := 246, attributes := #[] }])
  fields := #[{ name := "E", type := .double, accessFlags := 25, slot := 0, constantValue := 0 }, { name := "PI", type := .double, accessFlags := 25, slot := 1, constantValue := 0 }, { name := "TAU", type := .double, accessFlags := 25, slot := 2, constantValue := 0 }, { name := "DEGREES_TO_RADIANS", type := .double, accessFlags := 26, slot := 3, constantValue := 0 }, { name := "RADIANS_TO_DEGREES", type := .double, accessFlags := 26, slot := 4, constantValue := 0 }, { name := "negativeZeroFloatBits", type := .long, accessFlags := 26, slot := 5, constantValue := 0 }, { name := "negativeZeroDoubleBits", type := .long, accessFlags := 26, slot := 6, constantValue := 0 }, { name := "twoToTheDoubleScaleUp", type := .double, accessFlags := 8, slot := 7, constantValue := 0 }, { name := "twoToTheDoubleScaleDown", type := .double, accessFlags := 8, slot := 8, constantValue := 0 }, { name := "$assertionsDisabled", type := .boolean, accessFlags := 4120, slot := 9, constantValue := 0 }]
  methods := #[k18m0, k18m1]
  instanceTypes := #[]
  staticTypes := #[.double, .double, .double, .double, .double, .long, .long, .double, .double, .boolean]
  resolved := Array.replicate 460 none
  statics := none }

def pool19 : Array CpInfo := pool [(4, .class_ 6), (1, u "java/lang/Object"), (0, u "<init>"), (0, u "()V"), (5, .class_ 16), (1, u "java/lang/StringLatin1"), (0, u "inflate"), (2, .class_ 22), (1, u "java/lang/StringUTF16"), (3, .nameAndType 17 27), (0, u "([BI[BII)V"), (93, u "$assertionsDisabled"), (0, u "Z"), (98, .class_ 223), (1, u "java/lang/StringLatin1$LinesSpliterator"), (16, .methodref 20 26), (40, u "equals"), (0, u "([B[B)Z"), (107, .class_ 391), (0, u "java/lang/StringLatin1$CharsSpliterator")] 3

def k19m0 : Method := { name := "<init>", desc := "()V", sig := { parameters := [], returnType := none }, accessFlags := 0, code := none }
def k19c1 : Code := { maxStack := 3, maxLocals := 3, code := jdk_43_method_13_code, exceptionTable := #[], attributes := #[] }
def k19m1 : Method := { name := "equals", desc := "([B[B)Z", sig := { parameters := [(.array .byte), (.array .byte)], returnType := some .boolean }, accessFlags := 9, code := some k19c1 }
def k19c2 : Code := { maxStack := 5, maxLocals := 5, code := jdk_43_method_50_code, exceptionTable := #[], attributes := #[] }
def k19m2 : Method := { name := "inflate", desc := "([BI[BII)V", sig := { parameters := [(.array .byte), .int, (.array .byte), .int, .int], returnType := none }, accessFlags := 9, code := some k19c2 }
/-- java/lang/StringLatin1 -/
def k19 : Class := { plain "java/lang/StringLatin1" (some 0) with
  accessFlags := 48
  interfaces := #[]
  cf := some (fileOf pool19 14 #[.nestMembers #[390, 221]] #[{ accessFlags := 0, nameIndex := 7, descriptorIndex := 8, attributes := #[] }, { accessFlags := 9, nameIndex := 281, descriptorIndex := 282, attributes := #[] }, { accessFlags := 9, nameIndex := 17, descriptorIndex := 27, attributes := #[] }] 48 4 #[] #[{ accessFlags := 4120, nameIndex := 121, descriptorIndex := 122, attributes := #[] }])
  fields := #[{ name := "$assertionsDisabled", type := .boolean, accessFlags := 4120, slot := 0, constantValue := 0 }]
  methods := #[k19m0, k19m1, k19m2]
  instanceTypes := #[]
  staticTypes := #[.boolean]
  resolved := Array.replicate 395 none
  statics := none }

def pool20 : Array CpInfo := pool [(2, .class_ 4), (1, u "java/lang/Object"), (0, u "<init>"), (0, u "()V"), (17, .class_ 26), (1, u "jdk/internal/util/Preconditions"), (20, u "checkFromToIndex"), (1, u "checkFromIndexSize"), (5, .class_ 56), (0, u "jdk/internal/util/Preconditions$4"), (57, .class_ 115), (0, u "jdk/internal/util/Preconditions$1"), (7, u "SIOOBE_FORMATTER"), (0, u "Ljava/util/function/BiFunction;"), (0, .class_ 126), (0, u "jdk/internal/util/Preconditions$2"), (3, u "AIOOBE_FORMATTER"), (0, .class_ 132), (0, u "jdk/internal/util/Preconditions$3"), (3, u "IOOBE_FORMATTER"), (46, u "(IIILjava/util/function/BiFunction;)I")] 10

def k20m0 : Method := { name := "<init>", desc := "()V", sig := { parameters := [], returnType := none }, accessFlags := 1, code := none }
def k20c1 : Code := { maxStack := 4, maxLocals := 4, code := jdk_41_method_12_code, exceptionTable := #[], attributes := #[] }
def k20m1 : Method := { name := "checkFromToIndex", desc := "(IIILjava/util/function/BiFunction;)I", sig := { parameters := [.int, .int, .int, (.object "java/util/function/BiFunction")], returnType := some .int }, accessFlags := 9, code := some k20c1 }
def k20c2 : Code := { maxStack := 4, maxLocals := 4, code := jdk_41_method_13_code, exceptionTable := #[], attributes := #[] }
def k20m2 : Method := { name := "checkFromIndexSize", desc := "(IIILjava/util/function/BiFunction;)I", sig := { parameters := [.int, .int, .int, (.object "java/util/function/BiFunction")], returnType := some .int }, accessFlags := 9, code := some k20c2 }
/-- jdk/internal/util/Preconditions -/
def k20 : Class := { plain "jdk/internal/util/Preconditions" (some 0) with
  accessFlags := 33
  interfaces := #[]
  cf := some (fileOf pool20 24 #[.nestMembers #[55, 131, 125, 114]] #[{ accessFlags := 1, nameIndex := 5, descriptorIndex := 6, attributes := #[] }, { accessFlags := 9, nameIndex := 47, descriptorIndex := 183, attributes := #[] }, { accessFlags := 9, nameIndex := 49, descriptorIndex := 183, attributes := #[] }] 33 2 #[] #[{ accessFlags := 25, nameIndex := 123, descriptorIndex := 124, attributes := #[] }, { accessFlags := 25, nameIndex := 130, descriptorIndex := 124, attributes := #[] }, { accessFlags := 25, nameIndex := 136, descriptorIndex := 124, attributes := #[] }])
  fields := #[{ name := "SIOOBE_FORMATTER", type := (.object "java/util/function/BiFunction"), accessFlags := 25, slot := 0, constantValue := 0 }, { name := "AIOOBE_FORMATTER", type := (.object "java/util/function/BiFunction"), accessFlags := 25, slot := 1, constantValue := 0 }, { name := "IOOBE_FORMATTER", type := (.object "java/util/function/BiFunction"), accessFlags := 25, slot := 2, constantValue := 0 }]
  methods := #[k20m0, k20m1, k20m2]
  instanceTypes := #[]
  staticTypes := #[(.object "java/util/function/BiFunction"), (.object "java/util/function/BiFunction"), (.object "java/util/function/BiFunction")]
  resolved := Array.replicate 194 none
  statics := some 3 }

def pool21 : Array CpInfo := pool [(9, u "<init>"), (6, .class_ 18), (1, u "java/lang/Object"), (0, u "()V"), (1, .class_ 23), (1, u "jdk/internal/util/ArraysSupport"), (0, u "LOG2_ARRAY_LONG_INDEX_SCALE"), (0, u "I"), (2, u "U"), (0, u "Ljdk/internal/misc/Unsafe;"), (8, u "BIG_ENDIAN"), (0, u "Z"), (8, u "LOG2_BYTE_BIT_SIZE"), (4, u "LOG2_ARRAY_INT_INDEX_SCALE"), (54, u "JLA"), (0, u "Ljdk/internal/access/JavaLangAccess;"), (11, u "LOG2_ARRAY_BOOLEAN_INDEX_SCALE"), (9, u "LOG2_ARRAY_BYTE_INDEX_SCALE"), (5, u "LOG2_ARRAY_CHAR_INDEX_SCALE"), (5, u "LOG2_ARRAY_SHORT_INDEX_SCALE"), (18, u "LOG2_ARRAY_FLOAT_INDEX_SCALE"), (24, u "LOG2_ARRAY_DOUBLE_INDEX_SCALE"), (89, u "T_BOOLEAN"), (2, u "T_CHAR"), (1, u "T_FLOAT"), (1, u "T_DOUBLE"), (1, u "T_BYTE"), (1, u "T_SHORT"), (1, u "T_INT"), (1, u "T_LONG"), (1, u "SOFT_MAX_ARRAY_LENGTH")] 83

def k21m0 : Method := { name := "<init>", desc := "()V", sig := { parameters := [], returnType := none }, accessFlags := 2, code := none }
/-- jdk/internal/util/ArraysSupport -/
def k21 : Class := { plain "jdk/internal/util/ArraysSupport" (some 0) with
  accessFlags := 33
  interfaces := #[]
  cf := some (fileOf pool21 21 #[] #[{ accessFlags := 2, nameIndex := 9, descriptorIndex := 19, attributes := #[] }] 33 16 #[] #[{ accessFlags := 24, nameIndex := 28, descriptorIndex := 29, attributes := #[] }, { accessFlags := 26, nameIndex := 38, descriptorIndex := 39, attributes := #[] }, { accessFlags := 25, nameIndex := 121, descriptorIndex := 25, attributes := #[] }, { accessFlags := 25, nameIndex := 131, descriptorIndex := 25, attributes := #[] }, { accessFlags := 25, nameIndex := 137, descriptorIndex := 25, attributes := #[] }, { accessFlags := 25, nameIndex := 143, descriptorIndex := 25, attributes := #[] }, { accessFlags := 25, nameIndex := 53, descriptorIndex := 25, attributes := #[] }, { accessFlags := 25, nameIndex := 24, descriptorIndex := 25, attributes := #[] }, { accessFlags := 25, nameIndex := 162, descriptorIndex := 25, attributes := #[] }, { accessFlags := 25, nameIndex := 187, descriptorIndex := 25, attributes := #[] }, { accessFlags := 26, nameIndex := 48, descriptorIndex := 25, attributes := #[] }, { accessFlags := 25, nameIndex := 277, descriptorIndex := 25, attributes := #[] }, { accessFlags := 25, nameIndex := 280, descriptorIndex := 25, attributes := #[] }, { accessFlags := 25, nameIndex := 282, descriptorIndex := 25, attributes := #[] }, { accessFlags := 25, nameIndex := 284, descriptorIndex := 25, attributes := #[] }, { accessFlags := 25, nameIndex := 286, descriptorIndex := 25, attributes := #[] }, { accessFlags := 25, nameIndex := 288, descriptorIndex := 25, attributes := #[] }, { accessFlags := 25, nameIndex := 290, descriptorIndex := 25, attributes := #[] }, { accessFlags := 25, nameIndex := 292, descriptorIndex := 25, attributes := #[] }, { accessFlags := 26, nameIndex := 108, descriptorIndex := 109, attributes := #[] }, { accessFlags := 25, nameIndex := 294, descriptorIndex := 25, attributes := #[] }])
  fields := #[{ name := "U", type := (.object "jdk/internal/misc/Unsafe"), accessFlags := 24, slot := 0, constantValue := 0 }, { name := "BIG_ENDIAN", type := .boolean, accessFlags := 26, slot := 1, constantValue := 0 }, { name := "LOG2_ARRAY_BOOLEAN_INDEX_SCALE", type := .int, accessFlags := 25, slot := 2, constantValue := 0 }, { name := "LOG2_ARRAY_BYTE_INDEX_SCALE", type := .int, accessFlags := 25, slot := 3, constantValue := 0 }, { name := "LOG2_ARRAY_CHAR_INDEX_SCALE", type := .int, accessFlags := 25, slot := 4, constantValue := 0 }, { name := "LOG2_ARRAY_SHORT_INDEX_SCALE", type := .int, accessFlags := 25, slot := 5, constantValue := 0 }, { name := "LOG2_ARRAY_INT_INDEX_SCALE", type := .int, accessFlags := 25, slot := 6, constantValue := 0 }, { name := "LOG2_ARRAY_LONG_INDEX_SCALE", type := .int, accessFlags := 25, slot := 7, constantValue := 0 }, { name := "LOG2_ARRAY_FLOAT_INDEX_SCALE", type := .int, accessFlags := 25, slot := 8, constantValue := 0 }, { name := "LOG2_ARRAY_DOUBLE_INDEX_SCALE", type := .int, accessFlags := 25, slot := 9, constantValue := 0 }, { name := "LOG2_BYTE_BIT_SIZE", type := .int, accessFlags := 26, slot := 10, constantValue := 0 }, { name := "T_BOOLEAN", type := .int, accessFlags := 25, slot := 11, constantValue := 0 }, { name := "T_CHAR", type := .int, accessFlags := 25, slot := 12, constantValue := 0 }, { name := "T_FLOAT", type := .int, accessFlags := 25, slot := 13, constantValue := 0 }, { name := "T_DOUBLE", type := .int, accessFlags := 25, slot := 14, constantValue := 0 }, { name := "T_BYTE", type := .int, accessFlags := 25, slot := 15, constantValue := 0 }, { name := "T_SHORT", type := .int, accessFlags := 25, slot := 16, constantValue := 0 }, { name := "T_INT", type := .int, accessFlags := 25, slot := 17, constantValue := 0 }, { name := "T_LONG", type := .int, accessFlags := 25, slot := 18, constantValue := 0 }, { name := "JLA", type := (.object "jdk/internal/access/JavaLangAccess"), accessFlags := 26, slot := 19, constantValue := 0 }, { name := "SOFT_MAX_ARRAY_LENGTH", type := .int, accessFlags := 25, slot := 20, constantValue := 0 }]
  methods := #[k21m0]
  instanceTypes := #[]
  staticTypes := #[(.object "jdk/internal/misc/Unsafe"), .boolean, .int, .int, .int, .int, .int, .int, .int, .int, .int, .int, .int, .int, .int, .int, .int, .int, .int, (.object "jdk/internal/access/JavaLangAccess"), .int]
  resolved := Array.replicate 378 none
  statics := none }

def pool22 : Array CpInfo := pool [(1, u "java/lang/Cloneable"), (0, .class_ 1), (0, u "java/lang/Object"), (0, .class_ 3)] 3

/-- java/lang/Cloneable -/
def k22 : Class := { plain "java/lang/Cloneable" (some 0) with
  accessFlags := 1537
  interfaces := #[]
  cf := some (fileOf pool22 2 #[] #[] 1537 4 #[] #[])
  fields := #[]
  methods := #[]
  instanceTypes := #[]
  staticTypes := #[]
  resolved := Array.replicate 8 none
  statics := none }

/-- the primitive byte -/
def k23 : Class := { plain "byte" none with kind := .primitive 'B', accessFlags := 0x411 }
/-- [B -/
def k24 : Class := { plain "[B" (some 0) with kind := .array 23 .byte, interfaces := #[22, 2], accessFlags := 1041 }

/-- the primitive char -/
def k25 : Class := { plain "char" none with kind := .primitive 'C', accessFlags := 0x411 }
/-- [C -/
def k26 : Class := { plain "[C" (some 0) with kind := .array 25 .char, interfaces := #[22, 2], accessFlags := 1041 }

/-- the primitive int -/
def k27 : Class := { plain "int" none with kind := .primitive 'I', accessFlags := 0x411 }
/-- [I -/
def k28 : Class := { plain "[I" (some 0) with kind := .array 27 .int, interfaces := #[22, 2], accessFlags := 1041 }

def heap : Heap := #[{ cls := 7, slots := #[.long 0, .int 1, .null, .int 0, .null, .int 0, .int 0], vm := .statics 7 },
  { cls := 8, slots := #[.int 0, .int 8, .int 0, .int 1], vm := .statics 8 },
  { cls := 16, slots := #[.int 0, .int 0, .null, .null, .ref 5, .ref 4, .int 0, .int 0, .long 0], vm := .statics 16 },
  { cls := 20, slots := #[.null, .null, .null], vm := .statics 20 },
  { cls := 24, slots := #[.int 48, .int 49, .int 50, .int 51, .int 52, .int 53, .int 54, .int 55, .int 56, .int 57, .int 48, .int 49, .int 50, .int 51, .int 52, .int 53, .int 54, .int 55, .int 56, .int 57, .int 48, .int 49, .int 50, .int 51, .int 52, .int 53, .int 54, .int 55, .int 56, .int 57, .int 48, .int 49, .int 50, .int 51, .int 52, .int 53, .int 54, .int 55, .int 56, .int 57, .int 48, .int 49, .int 50, .int 51, .int 52, .int 53, .int 54, .int 55, .int 56, .int 57, .int 48, .int 49, .int 50, .int 51, .int 52, .int 53, .int 54, .int 55, .int 56, .int 57, .int 48, .int 49, .int 50, .int 51, .int 52, .int 53, .int 54, .int 55, .int 56, .int 57, .int 48, .int 49, .int 50, .int 51, .int 52, .int 53, .int 54, .int 55, .int 56, .int 57, .int 48, .int 49, .int 50, .int 51, .int 52, .int 53, .int 54, .int 55, .int 56, .int 57, .int 48, .int 49, .int 50, .int 51, .int 52, .int 53, .int 54, .int 55, .int 56, .int 57], vm := .none },
  { cls := 24, slots := #[.int 48, .int 48, .int 48, .int 48, .int 48, .int 48, .int 48, .int 48, .int 48, .int 48, .int 49, .int 49, .int 49, .int 49, .int 49, .int 49, .int 49, .int 49, .int 49, .int 49, .int 50, .int 50, .int 50, .int 50, .int 50, .int 50, .int 50, .int 50, .int 50, .int 50, .int 51, .int 51, .int 51, .int 51, .int 51, .int 51, .int 51, .int 51, .int 51, .int 51, .int 52, .int 52, .int 52, .int 52, .int 52, .int 52, .int 52, .int 52, .int 52, .int 52, .int 53, .int 53, .int 53, .int 53, .int 53, .int 53, .int 53, .int 53, .int 53, .int 53, .int 54, .int 54, .int 54, .int 54, .int 54, .int 54, .int 54, .int 54, .int 54, .int 54, .int 55, .int 55, .int 55, .int 55, .int 55, .int 55, .int 55, .int 55, .int 55, .int 55, .int 56, .int 56, .int 56, .int 56, .int 56, .int 56, .int 56, .int 56, .int 56, .int 56, .int 57, .int 57, .int 57, .int 57, .int 57, .int 57, .int 57, .int 57, .int 57, .int 57], vm := .none }]
def classes : Array Class := #[k0, k1, k2, k3, k4, k5, k6, k7, k8, k9, k10, k11, k12, k13, k14, k15, k16, k17, k18, k19, k20, k21, k22, k23, k24, k25, k26, k27, k28]
def interned : List (Array UInt16 × Addr) := []
def slotsUsed : Nat := 223
def theMethod : MethodId := ⟨1, 1⟩
def args0 : Array Value := #[.int 97, .int 98, .int 99, .int 100, .int 0]
def aboutOver (below : List Frame) : State where
  vm := { classes := classes, interned := interned.toArray }
  heap := heap
  slotsUsed := slotsUsed
  threads := #[{ frames := .invoking theMethod args0 :: below }]
def below0 : List Frame := [.native { method := ⟨0, 0⟩, args := #[] }]
def about1 : State := aboutOver below0
def p0 : Program := .bare "" "" ""
def e0 : Env := launch0.env 0 0 0
theorem w_frames : about1.frames = Frame.invoking theMethod args0 :: below0 := rfl
set_option maxRecDepth 65536 in
theorem w_args : argsFit about1.vm theMethod args0 = true := by decide +kernel
set_option maxRecDepth 65536 in
theorem w_heap : heapFits about1 = true := by decide +kernel
set_option maxRecDepth 65536 in
theorem w_runnable : about1.curStatus? = some .runnable := by decide +kernel
set_option maxRecDepth 65536 in
theorem w_alone : about1.alone = true := by decide +kernel
set_option maxRecDepth 65536 in
theorem w_named : about1.methodNamed? x = some theMethod := by decide +kernel
set_option maxRecDepth 65536 in
theorem w_hears : about1.hears theMethod below0 = true := by decide +kernel
set_option maxRecDepth 65536 in
theorem w_ripe : about1.ripe theMethod args0 below0 = true := by decide +kernel
theorem w_running : about1.status = .running := rfl
set_option maxRecDepth 65536 in
theorem w_room : about1.hasRoom e0.platform room_1 = true :=
  launch0.hasRoom_least _ room_1 (by decide +kernel) (by decide +kernel) (by decide +kernel) (by decide +kernel) (by decide +kernel) (by decide +kernel)
theorem allAtoms_all (ts : List Jvm.Cond) (a : Array Jvm.Value) (st : Jvm.State) : (allAtoms ts).before a st = ts.all (fun c => c.before a st) := by
  induction ts with
  | nil => rfl
  | cons c t ih =>
    show (Jvm.Cond.and c (allAtoms t)).before a st = _
    rw [Jvm.Cond.before_and, ih, List.all_cons]
def words1 : List Jvm.Cond := Jvm.Cond.code x code maxLocals ret :: tables_1
/-- a 'code' word, met by the world's own term for the bytes: nothing is compared byte by byte -/
theorem code_word {y : MethodName} {bytes : ByteArray} {mx : Nat} {rt : Option FieldType} {a : Array Value} {s : State} {m : MethodId} {meth : Method} {c : Code} (h1 : s.methodNamed? y = some m) (h2 : s.vm.method? m = some meth) (h3 : meth.code = some c) (h4 : c.code = bytes)
    (h5 : (c.maxLocals == mx && c.exceptionTable.isEmpty && decide (c.maxStack ≤ mostOperands) && decide (meth.sig.returnType = rt) && !meth.locks && decide (parseMethodDescriptor y.desc = some meth.sig)) = true) : (Jvm.Cond.code y bytes mx rt).before a s = true := by
  simp only [Bool.and_eq_true, beq_iff_eq, Bool.not_eq_true', decide_eq_true_eq] at h5
  obtain ⟨⟨⟨⟨⟨g1, g2⟩, g3⟩, g4⟩, g5⟩, g6⟩ := h5
  simp [Cond.before, Cond.holds, Cond.value, h1, h2, h3, h4, g1, g2, g3, g4, g5, g6]
def isCode : Jvm.Cond → Bool
  | .code _ _ _ _ => true
  | _ => false
theorem all_split {L : List Jvm.Cond} {P : Jvm.Cond → Bool} (h1 : L.all (fun c => isCode c || P c) = true) (h2 : ∀ c ∈ L.filter isCode, P c = true) : L.all P = true := by
  refine List.all_eq_true.mpr fun c hc => ?_
  have h := List.all_eq_true.mp h1 c hc
  rcases Bool.eq_false_or_eq_true (isCode c) with hi | hi
  · exact h2 c (List.mem_filter.mpr ⟨hc, hi⟩)
  · simpa [hi] using h
set_option maxRecDepth 65536 in
theorem w_c0 : (Jvm.Cond.code x code maxLocals ret).before args0 about1 = true := code_word (m := ⟨1, 1⟩) (meth := k1m1) (c := k1c1) (by decide +kernel) rfl rfl rfl (by decide +kernel)
set_option maxRecDepth 65536 in
theorem w_c1 : (Jvm.Cond.code ({ cls := "java/lang/String", name := "<init>", desc := "([C)V" } : Jvm.MethodName) jdk_42_method_3_code (2 : Nat) (Option.none : Option Jvm.ClassFile.FieldType)).before args0 about1 = true := code_word (m := ⟨7, 1⟩) (meth := k7m1) (c := k7c1) (by decide +kernel) rfl rfl rfl (by decide +kernel)
set_option maxRecDepth 65536 in
theorem w_c2 : (Jvm.Cond.code ({ cls := "java/lang/String", name := "<init>", desc := "([CIILjava/lang/Void;)V" } : Jvm.MethodName) jdk_42_method_149_code (6 : Nat) (Option.none : Option Jvm.ClassFile.FieldType)).before args0 about1 = true := code_word (m := ⟨7, 6⟩) (meth := k7m6) (c := k7c6) (by decide +kernel) rfl rfl rfl (by decide +kernel)
set_option maxRecDepth 65536 in
theorem w_c3 : (Jvm.Cond.code ({ cls := "java/lang/Object", name := "<init>", desc := "()V" } : Jvm.MethodName) object_method_1_code (1 : Nat) (Option.none : Option Jvm.ClassFile.FieldType)).before args0 about1 = true := code_word (m := ⟨0, 0⟩) (meth := k0m0) (c := k0c0) (by decide +kernel) rfl rfl rfl (by decide +kernel)
set_option maxRecDepth 65536 in
theorem w_c4 : (Jvm.Cond.code ({ cls := "java/lang/StringUTF16", name := "compress", desc := "([CII)[B" } : Jvm.MethodName) jdk_52_method_16_code (6 : Nat) (Option.some (Jvm.ClassFile.FieldType.array Jvm.ClassFile.FieldType.byte))).before args0 about1 = true := code_word (m := ⟨8, 8⟩) (meth := k8m8) (c := k8c8) (by decide +kernel) rfl rfl rfl (by decide +kernel)
set_option maxRecDepth 65536 in
theorem w_c5 : (Jvm.Cond.code ({ cls := "java/lang/StringUTF16", name := "compress", desc := "([CI[BII)I" } : Jvm.MethodName) jdk_52_method_21_code (7 : Nat) (Option.some Jvm.ClassFile.FieldType.int)).before args0 about1 = true := code_word (m := ⟨8, 9⟩) (meth := k8m9) (c := k8c9) (by decide +kernel) rfl rfl rfl (by decide +kernel)
set_option maxRecDepth 65536 in
theorem w_c6 : (Jvm.Cond.code ({ cls := "java/lang/StringUTF16", name := "coderFromArrayLen", desc := "([BI)B" } : Jvm.MethodName) jdk_52_method_15_code (2 : Nat) (Option.some Jvm.ClassFile.FieldType.byte)).before args0 about1 = true := code_word (m := ⟨8, 7⟩) (meth := k8m7) (c := k8c7) (by decide +kernel) rfl rfl rfl (by decide +kernel)
set_option maxRecDepth 65536 in
theorem w_c7 : (Jvm.Cond.code ({ cls := "com/example/vestry/vestry/ObjectName", name := "of", desc := "(Ljava/lang/String;Ljava/lang/String;)Lcom/example/vestry/vestry/ObjectName;" } : Jvm.MethodName) prog_58_method_2_code (2 : Nat) (Option.some (Jvm.ClassFile.FieldType.object "com/example/vestry/vestry/ObjectName"))).before args0 about1 = true := code_word (m := ⟨10, 1⟩) (meth := k10m1) (c := k10c1) (by decide +kernel) rfl rfl rfl (by decide +kernel)
set_option maxRecDepth 65536 in
theorem w_c8 : (Jvm.Cond.code ({ cls := "com/example/vestry/vestry/ObjectName", name := "<init>", desc := "(Lcom/example/vestry/vestry/ObjectName;Ljava/lang/String;Ljava/lang/String;I)V" } : Jvm.MethodName) prog_58_method_1_code (5 : Nat) (Option.none : Option Jvm.ClassFile.FieldType)).before args0 about1 = true := code_word (m := ⟨10, 0⟩) (meth := k10m0) (c := k10c0) (by decide +kernel) rfl rfl rfl (by decide +kernel)
set_option maxRecDepth 65536 in
theorem w_c9 : (Jvm.Cond.code ({ cls := "java/lang/Record", name := "<init>", desc := "()V" } : Jvm.MethodName) jdk_30_method_1_code (1 : Nat) (Option.none : Option Jvm.ClassFile.FieldType)).before args0 about1 = true := code_word (m := ⟨9, 0⟩) (meth := k9m0) (c := k9c0) (by decide +kernel) rfl rfl rfl (by decide +kernel)
set_option maxRecDepth 65536 in
theorem w_c10 : (Jvm.Cond.code ({ cls := "com/example/vestry/vestry/ObjectName", name := "within", desc := "()Lcom/example/vestry/vestry/ObjectName;" } : Jvm.MethodName) prog_58_method_9_code (1 : Nat) (Option.some (Jvm.ClassFile.FieldType.object "com/example/vestry/vestry/ObjectName"))).before args0 about1 = true := code_word (m := ⟨10, 3⟩) (meth := k10m3) (c := k10c3) (by decide +kernel) rfl rfl rfl (by decide +kernel)
set_option maxRecDepth 65536 in
theorem w_c11 : (Jvm.Cond.code ({ cls := "com/example/vestry/vestry/ObjectName", name := "kind", desc := "()Ljava/lang/String;" } : Jvm.MethodName) prog_58_method_10_code (1 : Nat) (Option.some (Jvm.ClassFile.FieldType.object "java/lang/String"))).before args0 about1 = true := code_word (m := ⟨10, 4⟩) (meth := k10m4) (c := k10c4) (by decide +kernel) rfl rfl rfl (by decide +kernel)
set_option maxRecDepth 65536 in
theorem w_c12 : (Jvm.Cond.code ({ cls := "java/lang/String", name := "equals", desc := "(Ljava/lang/Object;)Z" } : Jvm.MethodName) jdk_42_method_66_code (3 : Nat) (Option.some Jvm.ClassFile.FieldType.boolean)).before args0 about1 = true := code_word (m := ⟨7, 4⟩) (meth := k7m4) (c := k7c4) (by decide +kernel) rfl rfl rfl (by decide +kernel)
set_option maxRecDepth 65536 in
theorem w_c13 : (Jvm.Cond.code ({ cls := "com/example/vestry/vestry/ObjectName", name := "id", desc := "()Ljava/lang/String;" } : Jvm.MethodName) prog_58_method_11_code (1 : Nat) (Option.some (Jvm.ClassFile.FieldType.object "java/lang/String"))).before args0 about1 = true := code_word (m := ⟨10, 5⟩) (meth := k10m5) (c := k10c5) (by decide +kernel) rfl rfl rfl (by decide +kernel)
set_option maxRecDepth 65536 in
theorem w_c14 : (Jvm.Cond.code ({ cls := "com/example/vestry/vestry/ObjectName", name := "index", desc := "()I" } : Jvm.MethodName) prog_58_method_12_code (1 : Nat) (Option.some Jvm.ClassFile.FieldType.int)).before args0 about1 = true := code_word (m := ⟨10, 6⟩) (meth := k10m6) (c := k10c6) (by decide +kernel) rfl rfl rfl (by decide +kernel)
set_option maxRecDepth 65536 in
theorem w_c15 : (Jvm.Cond.code ({ cls := "com/example/vestry/vestry/ObjectName", name := "text", desc := "()Ljava/lang/String;" } : Jvm.MethodName) prog_58_method_5_code (3 : Nat) (Option.some (Jvm.ClassFile.FieldType.object "java/lang/String"))).before args0 about1 = true := code_word (m := ⟨10, 2⟩) (meth := k10m2) (c := k10c2) (by decide +kernel) rfl rfl rfl (by decide +kernel)
set_option maxRecDepth 65536 in
theorem w_c16 : (Jvm.Cond.code ({ cls := "java/lang/StringBuilder", name := "<init>", desc := "()V" } : Jvm.MethodName) jdk_67_method_1_code (1 : Nat) (Option.none : Option Jvm.ClassFile.FieldType)).before args0 about1 = true := code_word (m := ⟨13, 0⟩) (meth := k13m0) (c := k13c0) (by decide +kernel) rfl rfl rfl (by decide +kernel)
set_option maxRecDepth 65536 in
theorem w_c17 : (Jvm.Cond.code ({ cls := "java/lang/AbstractStringBuilder", name := "<init>", desc := "(I)V" } : Jvm.MethodName) jdk_68_method_2_code (2 : Nat) (Option.none : Option Jvm.ClassFile.FieldType)).before args0 about1 = true := code_word (m := ⟨12, 1⟩) (meth := k12m1) (c := k12c1) (by decide +kernel) rfl rfl rfl (by decide +kernel)
set_option maxRecDepth 65536 in
theorem w_c18 : (Jvm.Cond.code ({ cls := "java/lang/StringBuilder", name := "append", desc := "(Ljava/lang/String;)Ljava/lang/StringBuilder;" } : Jvm.MethodName) jdk_67_method_7_code (2 : Nat) (Option.some (Jvm.ClassFile.FieldType.object "java/lang/StringBuilder"))).before args0 about1 = true := code_word (m := ⟨13, 1⟩) (meth := k13m1) (c := k13c1) (by decide +kernel) rfl rfl rfl (by decide +kernel)
set_option maxRecDepth 65536 in
theorem w_c19 : (Jvm.Cond.code ({ cls := "java/lang/AbstractStringBuilder", name := "append", desc := "(Ljava/lang/String;)Ljava/lang/AbstractStringBuilder;" } : Jvm.MethodName) jdk_68_method_22_code (3 : Nat) (Option.some (Jvm.ClassFile.FieldType.object "java/lang/AbstractStringBuilder"))).before args0 about1 = true := code_word (m := ⟨12, 5⟩) (meth := k12m5) (c := k12c5) (by decide +kernel) rfl rfl rfl (by decide +kernel)
set_option maxRecDepth 65536 in
theorem w_c20 : (Jvm.Cond.code ({ cls := "java/lang/String", name := "length", desc := "()I" } : Jvm.MethodName) jdk_42_method_54_code (1 : Nat) (Option.some Jvm.ClassFile.FieldType.int)).before args0 about1 = true := code_word (m := ⟨7, 3⟩) (meth := k7m3) (c := k7c3) (by decide +kernel) rfl rfl rfl (by decide +kernel)
set_option maxRecDepth 65536 in
theorem w_c21 : (Jvm.Cond.code ({ cls := "java/lang/String", name := "coder", desc := "()B" } : Jvm.MethodName) jdk_42_method_152_code (1 : Nat) (Option.some Jvm.ClassFile.FieldType.byte)).before args0 about1 = true := code_word (m := ⟨7, 8⟩) (meth := k7m8) (c := k7c8) (by decide +kernel) rfl rfl rfl (by decide +kernel)
set_option maxRecDepth 65536 in
theorem w_c22 : (Jvm.Cond.code ({ cls := "java/lang/AbstractStringBuilder", name := "ensureCapacityInternal", desc := "(I)V" } : Jvm.MethodName) jdk_68_method_9_code (3 : Nat) (Option.none : Option Jvm.ClassFile.FieldType)).before args0 about1 = true := code_word (m := ⟨12, 3⟩) (meth := k12m3) (c := k12c3) (by decide +kernel) rfl rfl rfl (by decide +kernel)
set_option maxRecDepth 65536 in
theorem w_c23 : (Jvm.Cond.code ({ cls := "java/lang/AbstractStringBuilder", name := "putStringAt", desc := "(ILjava/lang/String;)V" } : Jvm.MethodName) jdk_68_method_73_code (3 : Nat) (Option.none : Option Jvm.ClassFile.FieldType)).before args0 about1 = true := code_word (m := ⟨12, 10⟩) (meth := k12m10) (c := k12c10) (by decide +kernel) rfl rfl rfl (by decide +kernel)
set_option maxRecDepth 65536 in
theorem w_c24 : (Jvm.Cond.code ({ cls := "java/lang/AbstractStringBuilder", name := "inflateIfNeededFor", desc := "(Ljava/lang/String;)V" } : Jvm.MethodName) jdk_68_method_71_code (2 : Nat) (Option.none : Option Jvm.ClassFile.FieldType)).before args0 about1 = true := code_word (m := ⟨12, 9⟩) (meth := k12m9) (c := k12c9) (by decide +kernel) rfl rfl rfl (by decide +kernel)
set_option maxRecDepth 65536 in
theorem w_c25 : (Jvm.Cond.code ({ cls := "java/lang/String", name := "getBytes", desc := "([BIB)V" } : Jvm.MethodName) jdk_42_method_147_code (4 : Nat) (Option.none : Option Jvm.ClassFile.FieldType)).before args0 about1 = true := code_word (m := ⟨7, 5⟩) (meth := k7m5) (c := k7c5) (by decide +kernel) rfl rfl rfl (by decide +kernel)
set_option maxRecDepth 65536 in
theorem w_c26 : (Jvm.Cond.code ({ cls := "java/lang/StringBuilder", name := "append", desc := "(I)Ljava/lang/StringBuilder;" } : Jvm.MethodName) jdk_67_method_15_code (2 : Nat) (Option.some (Jvm.ClassFile.FieldType.object "java/lang/StringBuilder"))).before args0 about1 = true := code_word (m := ⟨13, 2⟩) (meth := k13m2) (c := k13c2) (by decide +kernel) rfl rfl rfl (by decide +kernel)
set_option maxRecDepth 65536 in
theorem w_c27 : (Jvm.Cond.code ({ cls := "java/lang/AbstractStringBuilder", name := "append", desc := "(I)Ljava/lang/AbstractStringBuilder;" } : Jvm.MethodName) jdk_68_method_32_code (4 : Nat) (Option.some (Jvm.ClassFile.FieldType.object "java/lang/AbstractStringBuilder"))).before args0 about1 = true := code_word (m := ⟨12, 6⟩) (meth := k12m6) (c := k12c6) (by decide +kernel) rfl rfl rfl (by decide +kernel)
set_option maxRecDepth 65536 in
theorem w_c28 : (Jvm.Cond.code ({ cls := "java/lang/Integer", name := "stringSize", desc := "(I)I" } : Jvm.MethodName) jdk_33_method_13_code (4 : Nat) (Option.some Jvm.ClassFile.FieldType.int)).before args0 about1 = true := code_word (m := ⟨16, 1⟩) (meth := k16m1) (c := k16c1) (by decide +kernel) rfl rfl rfl (by decide +kernel)
set_option maxRecDepth 65536 in
theorem w_c29 : (Jvm.Cond.code ({ cls := "java/lang/AbstractStringBuilder", name := "isLatin1", desc := "()Z" } : Jvm.MethodName) jdk_68_method_68_code (1 : Nat) (Option.some Jvm.ClassFile.FieldType.boolean)).before args0 about1 = true := code_word (m := ⟨12, 8⟩) (meth := k12m8) (c := k12c8) (by decide +kernel) rfl rfl rfl (by decide +kernel)
set_option maxRecDepth 65536 in
theorem w_c30 : (Jvm.Cond.code ({ cls := "java/lang/Integer", name := "getChars", desc := "(II[B)I" } : Jvm.MethodName) jdk_33_method_12_code (7 : Nat) (Option.some Jvm.ClassFile.FieldType.int)).before args0 about1 = true := code_word (m := ⟨16, 0⟩) (meth := k16m0) (c := k16c0) (by decide +kernel) rfl rfl rfl (by decide +kernel)
set_option maxRecDepth 65536 in
theorem w_c31 : (Jvm.Cond.code ({ cls := "java/lang/StringBuilder", name := "toString", desc := "()Ljava/lang/String;" } : Jvm.MethodName) jdk_67_method_42_code (1 : Nat) (Option.some (Jvm.ClassFile.FieldType.object "java/lang/String"))).before args0 about1 = true := code_word (m := ⟨13, 3⟩) (meth := k13m3) (c := k13c3) (by decide +kernel) rfl rfl rfl (by decide +kernel)
set_option maxRecDepth 65536 in
theorem w_c32 : (Jvm.Cond.code ({ cls := "java/lang/String", name := "<init>", desc := "(Ljava/lang/StringBuilder;)V" } : Jvm.MethodName) jdk_42_method_53_code (2 : Nat) (Option.none : Option Jvm.ClassFile.FieldType)).before args0 about1 = true := code_word (m := ⟨7, 2⟩) (meth := k7m2) (c := k7c2) (by decide +kernel) rfl rfl rfl (by decide +kernel)
set_option maxRecDepth 65536 in
theorem w_c33 : (Jvm.Cond.code ({ cls := "java/lang/String", name := "<init>", desc := "(Ljava/lang/AbstractStringBuilder;Ljava/lang/Void;)V" } : Jvm.MethodName) jdk_42_method_150_code (5 : Nat) (Option.none : Option Jvm.ClassFile.FieldType)).before args0 about1 = true := code_word (m := ⟨7, 7⟩) (meth := k7m7) (c := k7c7) (by decide +kernel) rfl rfl rfl (by decide +kernel)
set_option maxRecDepth 65536 in
theorem w_c34 : (Jvm.Cond.code ({ cls := "java/lang/AbstractStringBuilder", name := "getValue", desc := "()[B" } : Jvm.MethodName) jdk_68_method_64_code (1 : Nat) (Option.some (Jvm.ClassFile.FieldType.array Jvm.ClassFile.FieldType.byte))).before args0 about1 = true := code_word (m := ⟨12, 7⟩) (meth := k12m7) (c := k12c7) (by decide +kernel) rfl rfl rfl (by decide +kernel)
set_option maxRecDepth 65536 in
theorem w_c35 : (Jvm.Cond.code ({ cls := "java/lang/StringBuilder", name := "length", desc := "()I" } : Jvm.MethodName) jdk_67_method_93_code (1 : Nat) (Option.some Jvm.ClassFile.FieldType.int)).before args0 about1 = true := code_word (m := ⟨13, 4⟩) (meth := k13m4) (c := k13c4) (by decide +kernel) rfl rfl rfl (by decide +kernel)
set_option maxRecDepth 65536 in
theorem w_c36 : (Jvm.Cond.code ({ cls := "java/lang/AbstractStringBuilder", name := "length", desc := "()I" } : Jvm.MethodName) jdk_68_method_6_code (1 : Nat) (Option.some Jvm.ClassFile.FieldType.int)).before args0 about1 = true := code_word (m := ⟨12, 2⟩) (meth := k12m2) (c := k12c2) (by decide +kernel) rfl rfl rfl (by decide +kernel)
set_option maxRecDepth 65536 in
theorem w_c37 : (Jvm.Cond.code ({ cls := "java/util/Arrays", name := "copyOfRange", desc := "([BII)[B" } : Jvm.MethodName) jdk_65_method_132_code (3 : Nat) (Option.some (Jvm.ClassFile.FieldType.array Jvm.ClassFile.FieldType.byte))).before args0 about1 = true := code_word (m := ⟨17, 2⟩) (meth := k17m2) (c := k17c2) (by decide +kernel) rfl rfl rfl (by decide +kernel)
set_option maxRecDepth 65536 in
theorem w_c38 : (Jvm.Cond.code ({ cls := "java/util/Arrays", name := "copyOfRangeByte", desc := "([BII)[B" } : Jvm.MethodName) jdk_65_method_133_code (5 : Nat) (Option.some (Jvm.ClassFile.FieldType.array Jvm.ClassFile.FieldType.byte))).before args0 about1 = true := code_word (m := ⟨17, 3⟩) (meth := k17m3) (c := k17c3) (by decide +kernel) rfl rfl rfl (by decide +kernel)
set_option maxRecDepth 65536 in
theorem w_c39 : (Jvm.Cond.code ({ cls := "java/util/Arrays", name := "checkLength", desc := "(II)V" } : Jvm.MethodName) jdk_65_method_131_code (2 : Nat) (Option.none : Option Jvm.ClassFile.FieldType)).before args0 about1 = true := code_word (m := ⟨17, 1⟩) (meth := k17m1) (c := k17c1) (by decide +kernel) rfl rfl rfl (by decide +kernel)
set_option maxRecDepth 65536 in
theorem w_c40 : (Jvm.Cond.code ({ cls := "java/lang/Math", name := "min", desc := "(II)I" } : Jvm.MethodName) jdk_29_method_69_code (2 : Nat) (Option.some Jvm.ClassFile.FieldType.int)).before args0 about1 = true := code_word (m := ⟨18, 1⟩) (meth := k18m1) (c := k18c1) (by decide +kernel) rfl rfl rfl (by decide +kernel)
set_option maxRecDepth 65536 in
theorem w_c41 : (Jvm.Cond.code ({ cls := "java/lang/StringLatin1", name := "equals", desc := "([B[B)Z" } : Jvm.MethodName) jdk_43_method_13_code (3 : Nat) (Option.some Jvm.ClassFile.FieldType.boolean)).before args0 about1 = true := code_word (m := ⟨19, 1⟩) (meth := k19m1) (c := k19c1) (by decide +kernel) rfl rfl rfl (by decide +kernel)
set_option maxRecDepth 65536 in
theorem w_c42 : (Jvm.Cond.code ({ cls := "java/lang/StringUTF16", name := "toBytes", desc := "([CII)[B" } : Jvm.MethodName) jdk_52_method_14_code (5 : Nat) (Option.some (Jvm.ClassFile.FieldType.array Jvm.ClassFile.FieldType.byte))).before args0 about1 = true := code_word (m := ⟨8, 6⟩) (meth := k8m6) (c := k8c6) (by decide +kernel) rfl rfl rfl (by decide +kernel)
set_option maxRecDepth 65536 in
theorem w_c43 : (Jvm.Cond.code ({ cls := "java/lang/StringUTF16", name := "newBytesFor", desc := "(I)[B" } : Jvm.MethodName) jdk_52_method_2_code (1 : Nat) (Option.some (Jvm.ClassFile.FieldType.array Jvm.ClassFile.FieldType.byte))).before args0 about1 = true := code_word (m := ⟨8, 1⟩) (meth := k8m1) (c := k8c1) (by decide +kernel) rfl rfl rfl (by decide +kernel)
set_option maxRecDepth 65536 in
theorem w_c44 : (Jvm.Cond.code ({ cls := "java/lang/StringUTF16", name := "newBytesLength", desc := "(I)I" } : Jvm.MethodName) jdk_52_method_3_code (1 : Nat) (Option.some Jvm.ClassFile.FieldType.int)).before args0 about1 = true := code_word (m := ⟨8, 2⟩) (meth := k8m2) (c := k8c2) (by decide +kernel) rfl rfl rfl (by decide +kernel)
set_option maxRecDepth 65536 in
theorem w_c45 : (Jvm.Cond.code ({ cls := "java/lang/StringUTF16", name := "putChar", desc := "([BII)V" } : Jvm.MethodName) jdk_52_method_4_code (3 : Nat) (Option.none : Option Jvm.ClassFile.FieldType)).before args0 about1 = true := code_word (m := ⟨8, 3⟩) (meth := k8m3) (c := k8c3) (by decide +kernel) rfl rfl rfl (by decide +kernel)
set_option maxRecDepth 65536 in
theorem w_c46 : (Jvm.Cond.code ({ cls := "java/lang/StringUTF16", name := "getChar", desc := "([BI)C" } : Jvm.MethodName) jdk_52_method_5_code (2 : Nat) (Option.some Jvm.ClassFile.FieldType.char)).before args0 about1 = true := code_word (m := ⟨8, 4⟩) (meth := k8m4) (c := k8c4) (by decide +kernel) rfl rfl rfl (by decide +kernel)
set_option maxRecDepth 65536 in
theorem w_c47 : (Jvm.Cond.code ({ cls := "java/lang/AbstractStringBuilder", name := "inflate", desc := "()V" } : Jvm.MethodName) jdk_68_method_11_code (2 : Nat) (Option.none : Option Jvm.ClassFile.FieldType)).before args0 about1 = true := code_word (m := ⟨12, 4⟩) (meth := k12m4) (c := k12c4) (by decide +kernel) rfl rfl rfl (by decide +kernel)
set_option maxRecDepth 65536 in
theorem w_c48 : (Jvm.Cond.code ({ cls := "java/lang/StringLatin1", name := "inflate", desc := "([BI[BII)V" } : Jvm.MethodName) jdk_43_method_50_code (5 : Nat) (Option.none : Option Jvm.ClassFile.FieldType)).before args0 about1 = true := code_word (m := ⟨19, 2⟩) (meth := k19m2) (c := k19c2) (by decide +kernel) rfl rfl rfl (by decide +kernel)
set_option maxRecDepth 65536 in
theorem w_c49 : (Jvm.Cond.code ({ cls := "java/lang/StringUTF16", name := "inflate", desc := "([BI[BII)V" } : Jvm.MethodName) jdk_52_method_86_code (6 : Nat) (Option.none : Option Jvm.ClassFile.FieldType)).before args0 about1 = true := code_word (m := ⟨8, 11⟩) (meth := k8m11) (c := k8c11) (by decide +kernel) rfl rfl rfl (by decide +kernel)
set_option maxRecDepth 65536 in
theorem w_c50 : (Jvm.Cond.code ({ cls := "java/lang/StringUTF16", name := "checkBoundsOffCount", desc := "(II[B)V" } : Jvm.MethodName) jdk_52_method_94_code (3 : Nat) (Option.none : Option Jvm.ClassFile.FieldType)).before args0 about1 = true := code_word (m := ⟨8, 14⟩) (meth := k8m14) (c := k8c14) (by decide +kernel) rfl rfl rfl (by decide +kernel)
set_option maxRecDepth 65536 in
theorem w_c51 : (Jvm.Cond.code ({ cls := "java/lang/StringUTF16", name := "length", desc := "([B)I" } : Jvm.MethodName) jdk_52_method_6_code (1 : Nat) (Option.some Jvm.ClassFile.FieldType.int)).before args0 about1 = true := code_word (m := ⟨8, 5⟩) (meth := k8m5) (c := k8c5) (by decide +kernel) rfl rfl rfl (by decide +kernel)
set_option maxRecDepth 65536 in
theorem w_c52 : (Jvm.Cond.code ({ cls := "java/lang/String", name := "checkBoundsOffCount", desc := "(III)I" } : Jvm.MethodName) jdk_42_method_157_code (3 : Nat) (Option.some Jvm.ClassFile.FieldType.int)).before args0 about1 = true := code_word (m := ⟨7, 9⟩) (meth := k7m9) (c := k7c9) (by decide +kernel) rfl rfl rfl (by decide +kernel)
set_option maxRecDepth 65536 in
theorem w_c53 : (Jvm.Cond.code ({ cls := "jdk/internal/util/Preconditions", name := "checkFromIndexSize", desc := "(IIILjava/util/function/BiFunction;)I" } : Jvm.MethodName) jdk_41_method_13_code (4 : Nat) (Option.some Jvm.ClassFile.FieldType.int)).before args0 about1 = true := code_word (m := ⟨20, 2⟩) (meth := k20m2) (c := k20c2) (by decide +kernel) rfl rfl rfl (by decide +kernel)
set_option maxRecDepth 65536 in
theorem w_c54 : (Jvm.Cond.code ({ cls := "java/lang/StringUTF16", name := "getChars", desc := "(III[B)I" } : Jvm.MethodName) jdk_52_method_77_code (5 : Nat) (Option.some Jvm.ClassFile.FieldType.int)).before args0 about1 = true := code_word (m := ⟨8, 10⟩) (meth := k8m10) (c := k8c10) (by decide +kernel) rfl rfl rfl (by decide +kernel)
set_option maxRecDepth 65536 in
theorem w_c55 : (Jvm.Cond.code ({ cls := "java/lang/StringUTF16", name := "checkBoundsBeginEnd", desc := "(II[B)V" } : Jvm.MethodName) jdk_52_method_93_code (3 : Nat) (Option.none : Option Jvm.ClassFile.FieldType)).before args0 about1 = true := code_word (m := ⟨8, 13⟩) (meth := k8m13) (c := k8c13) (by decide +kernel) rfl rfl rfl (by decide +kernel)
set_option maxRecDepth 65536 in
theorem w_c56 : (Jvm.Cond.code ({ cls := "java/lang/String", name := "checkBoundsBeginEnd", desc := "(III)V" } : Jvm.MethodName) jdk_42_method_158_code (3 : Nat) (Option.none : Option Jvm.ClassFile.FieldType)).before args0 about1 = true := code_word (m := ⟨7, 10⟩) (meth := k7m10) (c := k7c10) (by decide +kernel) rfl rfl rfl (by decide +kernel)
set_option maxRecDepth 65536 in
theorem w_c57 : (Jvm.Cond.code ({ cls := "jdk/internal/util/Preconditions", name := "checkFromToIndex", desc := "(IIILjava/util/function/BiFunction;)I" } : Jvm.MethodName) jdk_41_method_12_code (4 : Nat) (Option.some Jvm.ClassFile.FieldType.int)).before args0 about1 = true := code_word (m := ⟨20, 1⟩) (meth := k20m1) (c := k20c1) (by decide +kernel) rfl rfl rfl (by decide +kernel)
set_option maxRecDepth 65536 in
theorem w_c58 : (Jvm.Cond.code ({ cls := "java/lang/StringUTF16", name := "getChars", desc := "(II[B)I" } : Jvm.MethodName) jdk_52_method_89_code (7 : Nat) (Option.some Jvm.ClassFile.FieldType.int)).before args0 about1 = true := code_word (m := ⟨8, 12⟩) (meth := k8m12) (c := k8c12) (by decide +kernel) rfl rfl rfl (by decide +kernel)
def codes1 : List Jvm.Cond := [Jvm.Cond.code x code maxLocals ret, Jvm.Cond.code ({ cls := "java/lang/String", name := "<init>", desc := "([C)V" } : Jvm.MethodName) jdk_42_method_3_code (2 : Nat) (Option.none : Option Jvm.ClassFile.FieldType), Jvm.Cond.code ({ cls := "java/lang/String", name := "<init>", desc := "([CIILjava/lang/Void;)V" } : Jvm.MethodName) jdk_42_method_149_code (6 : Nat) (Option.none : Option Jvm.ClassFile.FieldType), Jvm.Cond.code ({ cls := "java/lang/Object", name := "<init>", desc := "()V" } : Jvm.MethodName) object_method_1_code (1 : Nat) (Option.none : Option Jvm.ClassFile.FieldType), Jvm.Cond.code ({ cls := "java/lang/StringUTF16", name := "compress", desc := "([CII)[B" } : Jvm.MethodName) jdk_52_method_16_code (6 : Nat) (Option.some (Jvm.ClassFile.FieldType.array Jvm.ClassFile.FieldType.byte)), Jvm.Cond.code ({ cls := "java/lang/StringUTF16", name := "compress", desc := "([CI[BII)I" } : Jvm.MethodName) jdk_52_method_21_code (7 : Nat) (Option.some Jvm.ClassFile.FieldType.int), Jvm.Cond.code ({ cls := "java/lang/StringUTF16", name := "coderFromArrayLen", desc := "([BI)B" } : Jvm.MethodName) jdk_52_method_15_code (2 : Nat) (Option.some Jvm.ClassFile.FieldType.byte), Jvm.Cond.code ({ cls := "com/example/vestry/vestry/ObjectName", name := "of", desc := "(Ljava/lang/String;Ljava/lang/String;)Lcom/example/vestry/vestry/ObjectName;" } : Jvm.MethodName) prog_58_method_2_code (2 : Nat) (Option.some (Jvm.ClassFile.FieldType.object "com/example/vestry/vestry/ObjectName")), Jvm.Cond.code ({ cls := "com/example/vestry/vestry/ObjectName", name := "<init>", desc := "(Lcom/example/vestry/vestry/ObjectName;Ljava/lang/String;Ljava/lang/String;I)V" } : Jvm.MethodName) prog_58_method_1_code (5 : Nat) (Option.none : Option Jvm.ClassFile.FieldType), Jvm.Cond.code ({ cls := "java/lang/Record", name := "<init>", desc := "()V" } : Jvm.MethodName) jdk_30_method_1_code (1 : Nat) (Option.none : Option Jvm.ClassFile.FieldType), Jvm.Cond.code ({ cls := "com/example/vestry/vestry/ObjectName", name := "within", desc := "()Lcom/example/vestry/vestry/ObjectName;" } : Jvm.MethodName) prog_58_method_9_code (1 : Nat) (Option.some (Jvm.ClassFile.FieldType.object "com/example/vestry/vestry/ObjectName")), Jvm.Cond.code ({ cls := "com/example/vestry/vestry/ObjectName", name := "kind", desc := "()Ljava/lang/String;" } : Jvm.MethodName) prog_58_method_10_code (1 : Nat) (Option.some (Jvm.ClassFile.FieldType.object "java/lang/String")), Jvm.Cond.code ({ cls := "java/lang/String", name := "equals", desc := "(Ljava/lang/Object;)Z" } : Jvm.MethodName) jdk_42_method_66_code (3 : Nat) (Option.some Jvm.ClassFile.FieldType.boolean), Jvm.Cond.code ({ cls := "com/example/vestry/vestry/ObjectName", name := "id", desc := "()Ljava/lang/String;" } : Jvm.MethodName) prog_58_method_11_code (1 : Nat) (Option.some (Jvm.ClassFile.FieldType.object "java/lang/String")), Jvm.Cond.code ({ cls := "com/example/vestry/vestry/ObjectName", name := "index", desc := "()I" } : Jvm.MethodName) prog_58_method_12_code (1 : Nat) (Option.some Jvm.ClassFile.FieldType.int), Jvm.Cond.code ({ cls := "com/example/vestry/vestry/ObjectName", name := "text", desc := "()Ljava/lang/String;" } : Jvm.MethodName) prog_58_method_5_code (3 : Nat) (Option.some (Jvm.ClassFile.FieldType.object "java/lang/String")), Jvm.Cond.code ({ cls := "java/lang/StringBuilder", name := "<init>", desc := "()V" } : Jvm.MethodName) jdk_67_method_1_code (1 : Nat) (Option.none : Option Jvm.ClassFile.FieldType), Jvm.Cond.code ({ cls := "java/lang/AbstractStringBuilder", name := "<init>", desc := "(I)V" } : Jvm.MethodName) jdk_68_method_2_code (2 : Nat) (Option.none : Option Jvm.ClassFile.FieldType), Jvm.Cond.code ({ cls := "java/lang/StringBuilder", name := "append", desc := "(Ljava/lang/String;)Ljava/lang/StringBuilder;" } : Jvm.MethodName) jdk_67_method_7_code (2 : Nat) (Option.some (Jvm.ClassFile.FieldType.object "java/lang/StringBuilder")), Jvm.Cond.code ({ cls := "java/lang/AbstractStringBuilder", name := "append", desc := "(Ljava/lang/String;)Ljava/lang/AbstractStringBuilder;" } : Jvm.MethodName) jdk_68_method_22_code (3 : Nat) (Option.some (Jvm.ClassFile.FieldType.object "java/lang/AbstractStringBuilder")), Jvm.Cond.code ({ cls := "java/lang/String", name := "length", desc := "()I" } : Jvm.MethodName) jdk_42_method_54_code (1 : Nat) (Option.some Jvm.ClassFile.FieldType.int), Jvm.Cond.code ({ cls := "java/lang/String", name := "coder", desc := "()B" } : Jvm.MethodName) jdk_42_method_152_code (1 : Nat) (Option.some Jvm.ClassFile.FieldType.byte), Jvm.Cond.code ({ cls := "java/lang/AbstractStringBuilder", name := "ensureCapacityInternal", desc := "(I)V" } : Jvm.MethodName) jdk_68_method_9_code (3 : Nat) (Option.none : Option Jvm.ClassFile.FieldType), Jvm.Cond.code ({ cls := "java/lang/AbstractStringBuilder", name := "putStringAt", desc := "(ILjava/lang/String;)V" } : Jvm.MethodName) jdk_68_method_73_code (3 : Nat) (Option.none : Option Jvm.ClassFile.FieldType), Jvm.Cond.code ({ cls := "java/lang/AbstractStringBuilder", name := "inflateIfNeededFor", desc := "(Ljava/lang/String;)V" } : Jvm.MethodName) jdk_68_method_71_code (2 : Nat) (Option.none : Option Jvm.ClassFile.FieldType), Jvm.Cond.code ({ cls := "java/lang/String", name := "getBytes", desc := "([BIB)V" } : Jvm.MethodName) jdk_42_method_147_code (4 : Nat) (Option.none : Option Jvm.ClassFile.FieldType), Jvm.Cond.code ({ cls := "java/lang/StringBuilder", name := "append", desc := "(I)Ljava/lang/StringBuilder;" } : Jvm.MethodName) jdk_67_method_15_code (2 : Nat) (Option.some (Jvm.ClassFile.FieldType.object "java/lang/StringBuilder")), Jvm.Cond.code ({ cls := "java/lang/AbstractStringBuilder", name := "append", desc := "(I)Ljava/lang/AbstractStringBuilder;" } : Jvm.MethodName) jdk_68_method_32_code (4 : Nat) (Option.some (Jvm.ClassFile.FieldType.object "java/lang/AbstractStringBuilder")), Jvm.Cond.code ({ cls := "java/lang/Integer", name := "stringSize", desc := "(I)I" } : Jvm.MethodName) jdk_33_method_13_code (4 : Nat) (Option.some Jvm.ClassFile.FieldType.int), Jvm.Cond.code ({ cls := "java/lang/AbstractStringBuilder", name := "isLatin1", desc := "()Z" } : Jvm.MethodName) jdk_68_method_68_code (1 : Nat) (Option.some Jvm.ClassFile.FieldType.boolean), Jvm.Cond.code ({ cls := "java/lang/Integer", name := "getChars", desc := "(II[B)I" } : Jvm.MethodName) jdk_33_method_12_code (7 : Nat) (Option.some Jvm.ClassFile.FieldType.int), Jvm.Cond.code ({ cls := "java/lang/StringBuilder", name := "toString", desc := "()Ljava/lang/String;" } : Jvm.MethodName) jdk_67_method_42_code (1 : Nat) (Option.some (Jvm.ClassFile.FieldType.object "java/lang/String")), Jvm.Cond.code ({ cls := "java/lang/String", name := "<init>", desc := "(Ljava/lang/StringBuilder;)V" } : Jvm.MethodName) jdk_42_method_53_code (2 : Nat) (Option.none : Option Jvm.ClassFile.FieldType), Jvm.Cond.code ({ cls := "java/lang/String", name := "<init>", desc := "(Ljava/lang/AbstractStringBuilder;Ljava/lang/Void;)V" } : Jvm.MethodName) jdk_42_method_150_code (5 : Nat) (Option.none : Option Jvm.ClassFile.FieldType), Jvm.Cond.code ({ cls := "java/lang/AbstractStringBuilder", name := "getValue", desc := "()[B" } : Jvm.MethodName) jdk_68_method_64_code (1 : Nat) (Option.some (Jvm.ClassFile.FieldType.array Jvm.ClassFile.FieldType.byte)), Jvm.Cond.code ({ cls := "java/lang/StringBuilder", name := "length", desc := "()I" } : Jvm.MethodName) jdk_67_method_93_code (1 : Nat) (Option.some Jvm.ClassFile.FieldType.int), Jvm.Cond.code ({ cls := "java/lang/AbstractStringBuilder", name := "length", desc := "()I" } : Jvm.MethodName) jdk_68_method_6_code (1 : Nat) (Option.some Jvm.ClassFile.FieldType.int), Jvm.Cond.code ({ cls := "java/util/Arrays", name := "copyOfRange", desc := "([BII)[B" } : Jvm.MethodName) jdk_65_method_132_code (3 : Nat) (Option.some (Jvm.ClassFile.FieldType.array Jvm.ClassFile.FieldType.byte)), Jvm.Cond.code ({ cls := "java/util/Arrays", name := "copyOfRangeByte", desc := "([BII)[B" } : Jvm.MethodName) jdk_65_method_133_code (5 : Nat) (Option.some (Jvm.ClassFile.FieldType.array Jvm.ClassFile.FieldType.byte)), Jvm.Cond.code ({ cls := "java/util/Arrays", name := "checkLength", desc := "(II)V" } : Jvm.MethodName) jdk_65_method_131_code (2 : Nat) (Option.none : Option Jvm.ClassFile.FieldType), Jvm.Cond.code ({ cls := "java/lang/Math", name := "min", desc := "(II)I" } : Jvm.MethodName) jdk_29_method_69_code (2 : Nat) (Option.some Jvm.ClassFile.FieldType.int), Jvm.Cond.code ({ cls := "java/lang/StringLatin1", name := "equals", desc := "([B[B)Z" } : Jvm.MethodName) jdk_43_method_13_code (3 : Nat) (Option.some Jvm.ClassFile.FieldType.boolean), Jvm.Cond.code ({ cls := "java/lang/StringUTF16", name := "toBytes", desc := "([CII)[B" } : Jvm.MethodName) jdk_52_method_14_code (5 : Nat) (Option.some (Jvm.ClassFile.FieldType.array Jvm.ClassFile.FieldType.byte)), Jvm.Cond.code ({ cls := "java/lang/StringUTF16", name := "newBytesFor", desc := "(I)[B" } : Jvm.MethodName) jdk_52_method_2_code (1 : Nat) (Option.some (Jvm.ClassFile.FieldType.array Jvm.ClassFile.FieldType.byte)), Jvm.Cond.code ({ cls := "java/lang/StringUTF16", name := "newBytesLength", desc := "(I)I" } : Jvm.MethodName) jdk_52_method_3_code (1 : Nat) (Option.some Jvm.ClassFile.FieldType.int), Jvm.Cond.code ({ cls := "java/lang/StringUTF16", name := "putChar", desc := "([BII)V" } : Jvm.MethodName) jdk_52_method_4_code (3 : Nat) (Option.none : Option Jvm.ClassFile.FieldType), Jvm.Cond.code ({ cls := "java/lang/StringUTF16", name := "getChar", desc := "([BI)C" } : Jvm.MethodName) jdk_52_method_5_code (2 : Nat) (Option.some Jvm.ClassFile.FieldType.char), Jvm.Cond.code ({ cls := "java/lang/AbstractStringBuilder", name := "inflate", desc := "()V" } : Jvm.MethodName) jdk_68_method_11_code (2 : Nat) (Option.none : Option Jvm.ClassFile.FieldType), Jvm.Cond.code ({ cls := "java/lang/StringLatin1", name := "inflate", desc := "([BI[BII)V" } : Jvm.MethodName) jdk_43_method_50_code (5 : Nat) (Option.none : Option Jvm.ClassFile.FieldType), Jvm.Cond.code ({ cls := "java/lang/StringUTF16", name := "inflate", desc := "([BI[BII)V" } : Jvm.MethodName) jdk_52_method_86_code (6 : Nat) (Option.none : Option Jvm.ClassFile.FieldType), Jvm.Cond.code ({ cls := "java/lang/StringUTF16", name := "checkBoundsOffCount", desc := "(II[B)V" } : Jvm.MethodName) jdk_52_method_94_code (3 : Nat) (Option.none : Option Jvm.ClassFile.FieldType), Jvm.Cond.code ({ cls := "java/lang/StringUTF16", name := "length", desc := "([B)I" } : Jvm.MethodName) jdk_52_method_6_code (1 : Nat) (Option.some Jvm.ClassFile.FieldType.int), Jvm.Cond.code ({ cls := "java/lang/String", name := "checkBoundsOffCount", desc := "(III)I" } : Jvm.MethodName) jdk_42_method_157_code (3 : Nat) (Option.some Jvm.ClassFile.FieldType.int), Jvm.Cond.code ({ cls := "jdk/internal/util/Preconditions", name := "checkFromIndexSize", desc := "(IIILjava/util/function/BiFunction;)I" } : Jvm.MethodName) jdk_41_method_13_code (4 : Nat) (Option.some Jvm.ClassFile.FieldType.int), Jvm.Cond.code ({ cls := "java/lang/StringUTF16", name := "getChars", desc := "(III[B)I" } : Jvm.MethodName) jdk_52_method_77_code (5 : Nat) (Option.some Jvm.ClassFile.FieldType.int), Jvm.Cond.code ({ cls := "java/lang/StringUTF16", name := "checkBoundsBeginEnd", desc := "(II[B)V" } : Jvm.MethodName) jdk_52_method_93_code (3 : Nat) (Option.none : Option Jvm.ClassFile.FieldType), Jvm.Cond.code ({ cls := "java/lang/String", name := "checkBoundsBeginEnd", desc := "(III)V" } : Jvm.MethodName) jdk_42_method_158_code (3 : Nat) (Option.none : Option Jvm.ClassFile.FieldType), Jvm.Cond.code ({ cls := "jdk/internal/util/Preconditions", name := "checkFromToIndex", desc := "(IIILjava/util/function/BiFunction;)I" } : Jvm.MethodName) jdk_41_method_12_code (4 : Nat) (Option.some Jvm.ClassFile.FieldType.int), Jvm.Cond.code ({ cls := "java/lang/StringUTF16", name := "getChars", desc := "(II[B)I" } : Jvm.MethodName) jdk_52_method_89_code (7 : Nat) (Option.some Jvm.ClassFile.FieldType.int)]
set_option maxRecDepth 65536 in
theorem codes_eq : words1.filter isCode = codes1 := rfl
theorem w_codes : ∀ c ∈ words1.filter isCode, c.before args0 about1 = true := by
  rw [codes_eq]
  intro c hc
  simp only [codes1, List.mem_cons, List.not_mem_nil, or_false] at hc
  rcases hc with rfl | rfl | rfl | rfl | rfl | rfl | rfl | rfl | rfl | rfl | rfl | rfl | rfl | rfl | rfl | rfl | rfl | rfl | rfl | rfl | rfl | rfl | rfl | rfl | rfl | rfl | rfl | rfl | rfl | rfl | rfl | rfl | rfl | rfl | rfl | rfl | rfl | rfl | rfl | rfl | rfl | rfl | rfl | rfl | rfl | rfl | rfl | rfl | rfl | rfl | rfl | rfl | rfl | rfl | rfl | rfl | rfl | rfl | rfl
  · exact w_c0
  · exact w_c1
  · exact w_c2
  · exact w_c3
  · exact w_c4
  · exact w_c5
  · exact w_c6
  · exact w_c7
  · exact w_c8
  · exact w_c9
  · exact w_c10
  · exact w_c11
  · exact w_c12
  · exact w_c13
  · exact w_c14
  · exact w_c15
  · exact w_c16
  · exact w_c17
  · exact w_c18
  · exact w_c19
  · exact w_c20
  · exact w_c21
  · exact w_c22
  · exact w_c23
  · exact w_c24
  · exact w_c25
  · exact w_c26
  · exact w_c27
  · exact w_c28
  · exact w_c29
  · exact w_c30
  · exact w_c31
  · exact w_c32
  · exact w_c33
  · exact w_c34
  · exact w_c35
  · exact w_c36
  · exact w_c37
  · exact w_c38
  · exact w_c39
  · exact w_c40
  · exact w_c41
  · exact w_c42
  · exact w_c43
  · exact w_c44
  · exact w_c45
  · exact w_c46
  · exact w_c47
  · exact w_c48
  · exact w_c49
  · exact w_c50
  · exact w_c51
  · exact w_c52
  · exact w_c53
  · exact w_c54
  · exact w_c55
  · exact w_c56
  · exact w_c57
  · exact w_c58
set_option maxRecDepth 65536 in
theorem w_t1 : (words1.take 24).all (fun c => isCode c || c.before args0 about1) = true := by decide +kernel
set_option maxRecDepth 65536 in
theorem w_t2 : ((words1.drop 24).take 24).all (fun c => isCode c || c.before args0 about1) = true := by decide +kernel
set_option maxRecDepth 65536 in
theorem w_t3 : (((words1.drop 24).drop 24).take 24).all (fun c => isCode c || c.before args0 about1) = true := by decide +kernel
set_option maxRecDepth 65536 in
theorem w_t4 : ((((words1.drop 24).drop 24).drop 24).take 24).all (fun c => isCode c || c.before args0 about1) = true := by decide +kernel
set_option maxRecDepth 65536 in
theorem w_t5 : (((((words1.drop 24).drop 24).drop 24).drop 24).take 24).all (fun c => isCode c || c.before args0 about1) = true := by decide +kernel
set_option maxRecDepth 65536 in
theorem w_t6 : ((((((words1.drop 24).drop 24).drop 24).drop 24).drop 24).take 24).all (fun c => isCode c || c.before args0 about1) = true := by decide +kernel
set_option maxRecDepth 65536 in
theorem w_t7 : (((((((words1.drop 24).drop 24).drop 24).drop 24).drop 24).drop 24).take 24).all (fun c => isCode c || c.before args0 about1) = true := by decide +kernel
set_option maxRecDepth 65536 in
theorem w_t8 : ((((((((words1.drop 24).drop 24).drop 24).drop 24).drop 24).drop 24).drop 24).take 24).all (fun c => isCode c || c.before args0 about1) = true := by decide +kernel
set_option maxRecDepth 65536 in
theorem w_t9 : (((((((((words1.drop 24).drop 24).drop 24).drop 24).drop 24).drop 24).drop 24).drop 24).take 24).all (fun c => isCode c || c.before args0 about1) = true := by decide +kernel
set_option maxRecDepth 65536 in
theorem w_t10 : ((((((((((words1.drop 24).drop 24).drop 24).drop 24).drop 24).drop 24).drop 24).drop 24).drop 24).take 24).all (fun c => isCode c || c.before args0 about1) = true := by decide +kernel
set_option maxRecDepth 65536 in
theorem w_t11 : (((((((((((words1.drop 24).drop 24).drop 24).drop 24).drop 24).drop 24).drop 24).drop 24).drop 24).drop 24).take 24).all (fun c => isCode c || c.before args0 about1) = true := by decide +kernel
set_option maxRecDepth 65536 in
theorem w_t12 : ((((((((((((words1.drop 24).drop 24).drop 24).drop 24).drop 24).drop 24).drop 24).drop 24).drop 24).drop 24).drop 24).take 24).all (fun c => isCode c || c.before args0 about1) = true := by decide +kernel
set_option maxRecDepth 65536 in
theorem w_t13 : ((((((((((((words1.drop 24).drop 24).drop 24).drop 24).drop 24).drop 24).drop 24).drop 24).drop 24).drop 24).drop 24).drop 24).all (fun c => isCode c || c.before args0 about1) = true := by decide +kernel
theorem w_tables : (allAtoms (Jvm.Cond.code x code maxLocals ret :: tables_1)).before args0 about1 = true := by
  rw [allAtoms_all]
  show words1.all (fun c => c.before args0 about1) = true
  refine all_split ?_ w_codes
  rw [← List.take_append_drop 24 words1, List.all_append, w_t1, ← List.take_append_drop 24 (words1.drop 24), List.all_append, w_t2, ← List.take_append_drop 24 ((words1.drop 24).drop 24), List.all_append, w_t3, ← List.take_append_drop 24 (((words1.drop 24).drop 24).drop 24), List.all_append, w_t4, ← List.take_append_drop 24 ((((words1.drop 24).drop 24).drop 24).drop 24), List.all_append, w_t5, ← List.take_append_drop 24 (((((words1.drop 24).drop 24).drop 24).drop 24).drop 24), List.all_append, w_t6, ← List.take_append_drop 24 ((((((words1.drop 24).drop 24).drop 24).drop 24).drop 24).drop 24), List.all_append, w_t7, ← List.take_append_drop 24 (((((((words1.drop 24).drop 24).drop 24).drop 24).drop 24).drop 24).drop 24), List.all_append, w_t8, ← List.take_append_drop 24 ((((((((words1.drop 24).drop 24).drop 24).drop 24).drop 24).drop 24).drop 24).drop 24), List.all_append, w_t9, ← List.take_append_drop 24 (((((((((words1.drop 24).drop 24).drop 24).drop 24).drop 24).drop 24).drop 24).drop 24).drop 24), List.all_append, w_t10, ← List.take_append_drop 24 ((((((((((words1.drop 24).drop 24).drop 24).drop 24).drop 24).drop 24).drop 24).drop 24).drop 24).drop 24), List.all_append, w_t11, ← List.take_append_drop 24 (((((((((((words1.drop 24).drop 24).drop 24).drop 24).drop 24).drop 24).drop 24).drop 24).drop 24).drop 24).drop 24), List.all_append, w_t12, w_t13]
  rfl
set_option maxRecDepth 65536 in
theorem w_rest : rest_1_c.before args0 about1 = true := by decide +kernel
set_option maxRecDepth 65536 in
theorem w_case : (Jvm.Cond.and given_1 narrow_1).before args0 about1 = true := by decide +kernel
set_option maxRecDepth 65536 in
theorem w_consts : constsHeld consts_1 about1 := Jvm.Lit.constsHeldB_iff.mp (by decide +kernel)
theorem w_applies : (headSpec (Jvm.Cond.code x code maxLocals ret :: tables_1) room_1).applies x e0.platform about1 = true :=
  (Spec.applies_iff w_frames).mpr ⟨w_running, w_runnable, w_alone, w_named, w_hears, w_ripe, w_room, w_tables⟩
theorem atStart : AtStart classFile x code maxLocals ret World_1 tables_1 room_1 Calls_1 rest_1 Pre_1 launch0 p0 e0 about1 theMethod args0 below0 :=
  ⟨lists_1, trivial, launch0.admits_env _ _ _, launch0.least_env, fairChoices_fair.cas, fairChoices_fair.clock, w_frames, w_args, w_heap, w_applies, ⟨w_consts, trivial⟩, w_rest, w_case⟩
end start1
theorem witness_1 : WitnessClaimed_1 := ⟨start1.p0, start1.e0, start1.about1, start1.theMethod, start1.args0, start1.below0, start1.atStart⟩
end Jvm.Pilot.@@N@@
